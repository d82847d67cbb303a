import PyProof.Rows.All
import Wide.All
import OpenK.AllK
import Wide.FinOn
import KE.KStar
import KE.KDictIter
import PyProof.StationsW
import PyProof.ExcBaseAll.ValueError
import OpenK.XSeg
import PyProof.GenRules
import KE.KBoundM
import PyProof.ExcFactsAll.ValueError
import KE.KLam
import PyProof.WalkInts
import PyProof.ListRange
import PyProof.ListCopy
import PyProof.Rows.SeqMore2
import PyProof.Rows.SumAny
import PyProof.Rows.TupAssign
import PyProof.Rows.SortWalk
import PyProof.Rows.SeqSliceW
import PyProof.NoPylong
import PyProof.RulesMatch
import PyProof.Rows.CatchOwn
import PyProof.ExcAttrAll.ValueError
import PyProof.Rows.TupSub
import Lean
import PySem.Challenge.RW_xc0002_01
set_option Elab.async false
set_option maxRecDepth 100000
set_option maxHeartbeats 8000000
set_option linter.unusedVariables false
set_option tactic.hygienic false
set_option genInjectivity false
set_option genSizeOf false
namespace Mine
section
open PySem PySem.W PyProof.Rows
open_top hd for PySem.Challenge.rw_xc0002_01
end
section
open PySem PySem.W PyProof.Rows PySem.Calls PySem.Spec

structure Reg where
  fp : List Addr
  P : Heap → Prop
  alive : ∀ h, P h → ∀ a ∈ fp, ∃ o, h.get? a = some o
  mono : ∀ h h', (∀ a ∈ fp, h'.get? a = h.get? a) → P h → P h'

noncomputable def cell (a : Addr) (p : Obj → Prop) : Reg where
  fp := [a]
  P h := ∃ o, h.get? a = some o ∧ p o
  alive h x b hb := by rw [List.mem_singleton.mp hb]; exact ⟨x.choose, x.choose_spec.1⟩
  mono h h' k x := by obtain ⟨o, ho, hp⟩ := x; exact ⟨o, (k a (.head _)).trans ho, hp⟩

structure Bs where
  g : Heap
  gens : Array GenState
  drawn : Drawn
  os : OsState

structure St (B : Bs) (s : Shared) (l : List Reg) : Prop where
  ge : s.gens = B.gens
  dr : s.drawn = B.drawn
  os : s.os = B.os
  keep : ∀ b o, B.g.get? b = some o → s.heap.get? b = some o
  regs : ∀ r ∈ l, r.P s.heap
  off : ∀ r ∈ l, ∀ a ∈ r.fp, B.g.get? a = none
  sep : l.Pairwise (fun r r' => ∀ a ∈ r.fp, a ∉ r'.fp)

theorem sep_symm {r r' : Reg} (h : ∀ a ∈ r.fp, a ∉ r'.fp) : ∀ a ∈ r'.fp, a ∉ r.fp := fun a ha hb => h a hb ha

namespace St
variable {B : Bs} {s : Shared} {l l' : List Reg} {r r' : Reg}

theorem perm (H : St B s l) (p : l.Perm l') : St B s l' :=
  ⟨H.ge, H.dr, H.os, H.keep, fun r hr => H.regs r (p.mem_iff.mpr hr), fun r hr => H.off r (p.mem_iff.mpr hr), (p.pairwise_iff (fun h => sep_symm h)).mp H.sep⟩
theorem tail (H : St B s (r :: l)) : St B s l :=
  ⟨H.ge, H.dr, H.os, H.keep, fun r hr => H.regs r (.tail _ hr), fun r hr => H.off r (.tail _ hr), (List.pairwise_cons.mp H.sep).2⟩
theorem sub (H : St B s l) (p : l'.Sublist l) : St B s l' :=
  ⟨H.ge, H.dr, H.os, H.keep, fun r hr => H.regs r (p.subset hr), fun r hr => H.off r (p.subset hr), H.sep.sublist p⟩
theorem get (H : St B s l) (h : r ∈ l) : r.P s.heap := H.regs r h
theorem head (H : St B s (r :: l)) : r.P s.heap := H.regs r (.head _)

theorem step (H : St B s (r :: l)) {s' : Shared} (ge : s'.gens = s.gens) (dr : s'.drawn = s.drawn) (os : s'.os = s.os)
    (m : ∀ a o, s.heap.get? a = some o → a ∉ r.fp → s'.heap.get? a = some o) (p : r'.P s'.heap) (f : ∀ a ∈ r'.fp, a ∈ r.fp ∨ s.heap.get? a = none) : St B s' (r' :: l) := by
  obtain ⟨S1, S2⟩ := List.pairwise_cons.mp H.sep
  refine ⟨ge.trans H.ge, dr.trans H.dr, os.trans H.os, fun b o e => m b o (H.keep b o e) fun hb => ?_, fun x hx => ?_, fun x hx a ha => ?_, List.pairwise_cons.mpr ⟨fun x hx a ha hax => ?_, S2⟩⟩
  · rw [H.off r (.head _) b hb] at e; cases e
  · rcases List.mem_cons.mp hx with rfl | hx
    · exact p
    · have hP := H.regs x (.tail _ hx)
      refine x.mono s.heap s'.heap (fun a ha => ?_) hP
      obtain ⟨o, ho⟩ := x.alive _ hP a ha
      rw [ho]
      exact m a o ho (sep_symm (S1 x hx) a ha)
  · rcases List.mem_cons.mp hx with rfl | hx
    · rcases f a ha with h | h
      · exact H.off r (.head _) a h
      · cases q : B.g.get? a with
        | none => rfl
        | some o => rw [H.keep a o q] at h; cases h
    · exact H.off x (.tail _ hx) a ha
  · rcases f a ha with h | h
    · exact S1 x hx a h hax
    · obtain ⟨o, ho⟩ := x.alive _ (H.regs x (.tail _ hx)) a hax
      rw [ho] at h; cases h
theorem add (H : St B s l) {s' : Shared} (ge : s'.gens = s.gens) (dr : s'.drawn = s.drawn) (os : s'.os = s.os)
    (m : ∀ a o, s.heap.get? a = some o → s'.heap.get? a = some o) (p : r'.P s'.heap) (f : ∀ a ∈ r'.fp, s.heap.get? a = none) : St B s' (r' :: l) := by
  let e : Reg := ⟨[], fun _ => True, (fun _ _ _ h => nomatch h), fun _ _ _ _ => trivial⟩
  have H' : St B s (e :: l) := ⟨H.ge, H.dr, H.os, H.keep, fun x hx => by rcases List.mem_cons.mp hx with rfl | hx; exact trivial; exact H.regs x hx,
    fun x hx a ha => by rcases List.mem_cons.mp hx with rfl | hx; cases ha; exact H.off x hx a ha, List.pairwise_cons.mpr ⟨(fun _ _ _ ha => nomatch ha), H.sep⟩⟩
  exact H'.step ge dr os (fun a o ho _ => m a o ho) p (fun a ha => .inr (f a ha))
theorem same (H : St B s l) {s' : Shared} (ge : s'.gens = s.gens) (dr : s'.drawn = s.drawn) (os : s'.os = s.os)
    (m : ∀ a o, s.heap.get? a = some o → s'.heap.get? a = some o) : St B s' l := by
  let e : Reg := ⟨[], fun _ => True, (fun _ _ _ h => nomatch h), fun _ _ _ _ => trivial⟩
  exact (H.add (r' := e) ge dr os m trivial (fun a ha => nomatch ha)).tail
theorem toks (H : St B s l) (t : Nat) : St B { s with toks := t } l := H.same rfl rfl rfl fun _ _ h => h
theorem weak (H : St B s (r :: l)) (p : r.P s.heap → r'.P s.heap) (f : ∀ a ∈ r'.fp, a ∈ r.fp) : St B s (r' :: l) :=
  H.step rfl rfl rfl (fun _ _ h _ => h) (p H.head) fun a ha => .inl (f a ha)
theorem turn {a : Addr} {p p' : Obj → Prop} (H : St B s (cell a p :: l)) {s' : Shared} (ge : s'.gens = s.gens) (dr : s'.drawn = s.drawn) (os : s'.os = s.os)
    (m : ∀ b o, s.heap.get? b = some o → b ≠ a → s'.heap.get? b = some o) (q : ∃ o, s'.heap.get? a = some o ∧ p' o) : St B s' (cell a p' :: l) :=
  H.step ge dr os (fun b o h n => m b o h fun e => n (e ▸ .head _)) q fun _ h => .inl h
theorem upd {a : Addr} {p p' : Obj → Prop} {f : Obj → Obj} (H : St B s (cell a p :: l)) (q : ∀ o, p o → p' (f o) ∧ (f o).isFreed = false) (t : Nat) :
    St B { s with heap := s.heap.update a f, toks := t } (cell a p' :: l) := by
  obtain ⟨o, ho, hp⟩ := H.head
  exact H.turn rfl rfl rfl (fun b ob e n => (Heap.get?_update_other _ _ (Ne.symm n)).trans e) ⟨f o, Heap.get?_update_self _ ho (q o hp).2, (q o hp).1⟩
theorem push (H : St B s l) {o : Obj} {p : Obj → Prop} (hf : o.isFreed = false) (hp : p o) (t : Nat) : St B { s with heap := s.heap.push o, toks := t } (cell s.heap.objs.size p :: l) := by
  refine H.add rfl rfl rfl (fun a x e => Heap.get?_push_of_some _ e) ⟨o, Heap.get?_push_size _ hf, hp⟩ fun a ha => ?_
  rw [List.mem_singleton.mp ha]
  cases q : s.heap.get? s.heap.objs.size with
  | none => rfl
  | some o' => exact absurd (Heap.lt_size q) (Nat.lt_irrefl _)
end St

noncomputable def frame (L : Addr) (cs : List (Str × Value)) : Reg where
  fp := [L]
  P h := ∃ m, h.Ns L m ∧ ∀ x v, cs.lookup x = some v → m x = some v
  alive h x b hb := by
    rw [List.mem_singleton.mp hb]
    obtain ⟨m, ⟨o, es, ep, ho, _⟩, _⟩ := x
    exact ⟨o, ho⟩
  mono h h' k x := by
    obtain ⟨m, ⟨o, es, ep, ho, r⟩, q⟩ := x
    exact ⟨m, ⟨o, es, ep, (k L (.head _)).trans ho, r⟩, q⟩

section
variable {M : Model} {A : Around} {E : Value → Shared → Prop} {s : Shared} {B : Bs} {l : List Reg} {env : Env} {cs : List (Str × Value)} {x : Str} {v : Value}

theorem name_l {pos : Pos} {Q : Value → Shared → Prop} (H : St B s l) (hm : frame env.locals cs ∈ l) (hv : cs.lookup x = some v) (h : Q v s)
    (hk : env.scope.kind = .function) (hl : env.kindOf x = some .local) (hd : (x == ("__debug__" : Str)) = false) :
    wpAny M A (eval (.Name x pos) env) Q E s := by
  obtain ⟨m, hn, q⟩ := H.get hm
  exact wpAny_Name (wpAny_loadName_local hk hl hn (q x v hv) h) hd

theorem store_l {Q : Unit → Shared → Prop} (H : St B s (frame env.locals cs :: l)) (h : ∀ s', St B s' (frame env.locals ((x, v) :: cs) :: l) → Q () s')
    (hl : env.kindOf x = some .local) (hp : (env.scope.kind == .class || (env.scope.kind == .module && env.locals != env.globals)) = false) :
    wpAny M A (storeName env x v) Q E s := by
  obtain ⟨m, hn, q⟩ := H.head
  refine wpAny_storeName_local hl hn (fun h' hn' hs => h _ (H.step rfl rfl rfl (fun b o e n => (hs.2 b fun z => n (z ▸ .head _)).trans e) ⟨_, hn', fun y u hy => ?_⟩ fun _ ha => .inl ha)) hp
  rw [List.lookup_cons] at hy
  by_cases e : y = x
  · subst e; simp only [BEq.rfl] at hy; simp only [if_true]; exact hy
  · rw [beq_false_of_ne e] at hy; simp only [if_neg e]; exact q y u hy

theorem const_int {i : Int} {k : Nat} {pos : Pos} {Q : Value → Shared → Prop} (H : St B s l) (h : ∀ t s', St B s' l → Q (.int i t) s') : wpAny M A (eval (.Constant (.int i) k pos) env) Q E s :=
  wpAny_Constant_int (h _ _ (H.toks _))
end

structure Gd (K : Frag) (g : Heap) : Prop where
  K : K.In g
  G : ∃ mg, g.Ns mainGlobals mg
  Bu : ∃ mb, g.Ns builtinsNs mb ∧ ∀ x : Str, x ≠ "__name__" → mb x = bootBuiltins x
  lim : g.NoLimit

section
variable {M : Model} {A : Around} {E : Value → Shared → Prop} {s : Shared} {B : Bs} {l : List Reg} {env : Env} {x : Str} {v : Value} {K : Frag}
theorem St.kin (H : St B s l) (G : Gd K B.g) : K.In s.heap := G.K.keeps H.keep

theorem name_g {pos : Pos} {Q : Value → Shared → Prop} (H : St B s l) (G : Gd K B.g) (e : nsIn K mainGlobals x = some (some v)) (h : Q v s)
    (hk : env.scope.kind = .function) (hl : env.kindOf x = some .globalImplicit) (hg : env.globals = mainGlobals) (hd : (x == ("__debug__" : Str)) = false) :
    wpAny M A (eval (.Name x pos) env) Q E s := by
  obtain ⟨mg, hn⟩ := G.G
  exact Name_function_global hk hl (loadGlobal_global (env := env) (hg ▸ hn.keeps H.keep) (mg_of G.K hn e) h) hd
theorem name_b {pos : Pos} {Q : Value → Shared → Prop} (H : St B s l) (G : Gd K B.g) (e : nsIn K mainGlobals x = some none) (hv : bootBuiltins x = some v) (h : Q v s)
    (hn : x ≠ "__name__") (hk : env.scope.kind = .function) (hl : env.kindOf x = some .globalImplicit) (hg : env.globals = mainGlobals) (hb : env.builtins = builtinsNs)
    (hd : (x == ("__debug__" : Str)) = false) : wpAny M A (eval (.Name x pos) env) Q E s := by
  obtain ⟨mg, hn1⟩ := G.G
  obtain ⟨mb, hn2, q⟩ := G.Bu
  exact Name_function_global hk hl (loadGlobal_builtin (env := env) (hg ▸ hn1.keeps H.keep) (mg_none_of G.K hn1 e) (hb ▸ hn2.keeps H.keep) ((q x hn).trans hv) h) hd
end
end
section
open PySem PySem.W PyProof.Rows PySem.Calls PySem.Spec Builtin Builtin.ObjectAttr Builtin.Getset_descriptor

inductive Rep (r r' : Reg) : List Reg → List Reg → Prop
  | here {l : List Reg} : Rep r r' (r :: l) (r' :: l)
  | there {x : Reg} {l l' : List Reg} : Rep r r' l l' → Rep r r' (x :: l) (x :: l')
theorem mem_0 {r : Reg} {l : List Reg} : r ∈ r :: l := List.mem_cons_self
theorem mem_1 {x0 r : Reg} {l : List Reg} : r ∈ x0 :: r :: l := List.mem_cons_of_mem _ mem_0
theorem mem_2 {x0 x1 r : Reg} {l : List Reg} : r ∈ x0 :: x1 :: r :: l := List.mem_cons_of_mem _ mem_1
theorem mem_3 {x0 x1 x2 r : Reg} {l : List Reg} : r ∈ x0 :: x1 :: x2 :: r :: l := List.mem_cons_of_mem _ mem_2
theorem mem_4 {x0 x1 x2 x3 r : Reg} {l : List Reg} : r ∈ x0 :: x1 :: x2 :: x3 :: r :: l := List.mem_cons_of_mem _ mem_3
theorem mem_5 {x0 x1 x2 x3 x4 r : Reg} {l : List Reg} : r ∈ x0 :: x1 :: x2 :: x3 :: x4 :: r :: l := List.mem_cons_of_mem _ mem_4
theorem mem_6 {x0 x1 x2 x3 x4 x5 r : Reg} {l : List Reg} : r ∈ x0 :: x1 :: x2 :: x3 :: x4 :: x5 :: r :: l := List.mem_cons_of_mem _ mem_5
theorem mem_7 {x0 x1 x2 x3 x4 x5 x6 r : Reg} {l : List Reg} : r ∈ x0 :: x1 :: x2 :: x3 :: x4 :: x5 :: x6 :: r :: l := List.mem_cons_of_mem _ mem_6
theorem mem_8 {x0 x1 x2 x3 x4 x5 x6 x7 r : Reg} {l : List Reg} : r ∈ x0 :: x1 :: x2 :: x3 :: x4 :: x5 :: x6 :: x7 :: r :: l := List.mem_cons_of_mem _ mem_7
theorem mem_9 {x0 x1 x2 x3 x4 x5 x6 x7 x8 r : Reg} {l : List Reg} : r ∈ x0 :: x1 :: x2 :: x3 :: x4 :: x5 :: x6 :: x7 :: x8 :: r :: l := List.mem_cons_of_mem _ mem_8
theorem rep_0 {r r' : Reg} {l : List Reg} : Rep r r' (r :: l) (r' :: l) := .here
theorem rep_1 {r r' x0 : Reg} {l : List Reg} : Rep r r' (x0 :: r :: l) (x0 :: r' :: l) := .there rep_0
theorem rep_2 {r r' x0 x1 : Reg} {l : List Reg} : Rep r r' (x0 :: x1 :: r :: l) (x0 :: x1 :: r' :: l) := .there rep_1
theorem rep_3 {r r' x0 x1 x2 : Reg} {l : List Reg} : Rep r r' (x0 :: x1 :: x2 :: r :: l) (x0 :: x1 :: x2 :: r' :: l) := .there rep_2
theorem rep_4 {r r' x0 x1 x2 x3 : Reg} {l : List Reg} : Rep r r' (x0 :: x1 :: x2 :: x3 :: r :: l) (x0 :: x1 :: x2 :: x3 :: r' :: l) := .there rep_3
theorem rep_5 {r r' x0 x1 x2 x3 x4 : Reg} {l : List Reg} : Rep r r' (x0 :: x1 :: x2 :: x3 :: x4 :: r :: l) (x0 :: x1 :: x2 :: x3 :: x4 :: r' :: l) := .there rep_4
theorem rep_6 {r r' x0 x1 x2 x3 x4 x5 : Reg} {l : List Reg} : Rep r r' (x0 :: x1 :: x2 :: x3 :: x4 :: x5 :: r :: l) (x0 :: x1 :: x2 :: x3 :: x4 :: x5 :: r' :: l) := .there rep_5
theorem rep_7 {r r' x0 x1 x2 x3 x4 x5 x6 : Reg} {l : List Reg} : Rep r r' (x0 :: x1 :: x2 :: x3 :: x4 :: x5 :: x6 :: r :: l) (x0 :: x1 :: x2 :: x3 :: x4 :: x5 :: x6 :: r' :: l) := .there rep_6
theorem rep_8 {r r' x0 x1 x2 x3 x4 x5 x6 x7 : Reg} {l : List Reg} : Rep r r' (x0 :: x1 :: x2 :: x3 :: x4 :: x5 :: x6 :: x7 :: r :: l) (x0 :: x1 :: x2 :: x3 :: x4 :: x5 :: x6 :: x7 :: r' :: l) := .there rep_7
theorem rep_9 {r r' x0 x1 x2 x3 x4 x5 x6 x7 x8 : Reg} {l : List Reg} : Rep r r' (x0 :: x1 :: x2 :: x3 :: x4 :: x5 :: x6 :: x7 :: x8 :: r :: l) (x0 :: x1 :: x2 :: x3 :: x4 :: x5 :: x6 :: x7 :: x8 :: r' :: l) := .there rep_8
theorem Rep.split {r r' : Reg} {l l' : List Reg} (h : Rep r r' l l') : ∃ p q, l = p ++ r :: q ∧ l' = p ++ r' :: q := by
  induction h with
  | here => exact ⟨[], _, rfl, rfl⟩
  | there _ ih => obtain ⟨p, q, a, b⟩ := ih; exact ⟨_ :: p, q, by rw [a]; rfl, by rw [b]; rfl⟩
theorem Rep.mem {r r' : Reg} {l l' : List Reg} (h : Rep r r' l l') : r ∈ l := by
  obtain ⟨p, q, rfl, _⟩ := h.split; simp

namespace St
variable {B : Bs} {s s' : Shared} {l l' : List Reg} {r r' : Reg}
theorem rep (H : St B s l) (R : Rep r r' l l') (ge : s'.gens = s.gens) (dr : s'.drawn = s.drawn) (os : s'.os = s.os)
    (m : ∀ a o, s.heap.get? a = some o → a ∉ r.fp → s'.heap.get? a = some o) (p : r'.P s'.heap) (f : ∀ a ∈ r'.fp, a ∈ r.fp ∨ s.heap.get? a = none) : St B s' l' := by
  obtain ⟨a, b, rfl, rfl⟩ := R.split
  have H1 : St B s (r :: (a ++ b)) := H.perm List.perm_middle
  exact (H1.step ge dr os m p f).perm List.perm_middle.symm
theorem repWeak (H : St B s l) (R : Rep r r' l l') (p : r.P s.heap → r'.P s.heap) (f : ∀ a ∈ r'.fp, a ∈ r.fp) : St B s l' :=
  H.rep R rfl rfl rfl (fun _ _ h _ => h) (p (H.get R.mem)) fun a ha => .inl (f a ha)
theorem upd1 {a : Addr} {p p' : Obj → Prop} {f : Obj → Obj} (H : St B s l) (R : Rep (cell a p) (cell a p') l l') (q : ∀ o, p o → p' (f o) ∧ (f o).isFreed = false) (t : Nat) :
    St B { s with heap := s.heap.update a f, toks := t } l' := by
  obtain ⟨o, ho, hp⟩ := H.get R.mem
  exact H.rep R rfl rfl rfl (fun b _ e n => (Heap.get?_update_other _ _ (fun z => n (by show b ∈ [a]; rw [z]; exact List.mem_singleton.mpr rfl))).trans e) ⟨f o, Heap.get?_update_self _ ho (q o hp).2, (q o hp).1⟩ fun _ h => .inl h
theorem same1 {a : Addr} {p p' : Obj → Prop} {h' : Heap} (H : St B s l) (R : Rep (cell a p) (cell a p') l l') (hs : Heap.SameBut a s.heap h') (q : ∃ o, h'.get? a = some o ∧ p' o) (t : Nat) :
    St B { s with heap := h', toks := t } l' :=
  H.rep R rfl rfl rfl (fun b _ e n => (hs.2 b (fun z => n (by show b ∈ [a]; rw [z]; exact List.mem_singleton.mpr rfl))).trans e) q fun _ h => .inl h
end St

section
variable {prog : Program} {w : World} {A : Around} {E : Value → Shared → Prop} {s : Shared} {K : Frag} {x C dx : Addr} {ox od : Obj} {name : Str} {v : Value}

theorem ga_dict {expr : Bool} {attr : Option Value} {Q : Value → Shared → Prop} (X : K.In s.heap) (I : InstAt s.heap x ox C (some od)) (hg : plainGet K C name = true) (hh : hasDictIn K C = true)
    (ha : findIn K (.ref C) name = some attr) (hn : noGet K attr = true) (hl : lookIn name od = some (some v)) (hv : handedIn v = true) (h : Q v { s with toks := s.toks + 1 }) :
    wpAny (model prog w) A (getAttr (.ref x) name expr) Q E s :=
  get_value X I (plainGet_of hg).1 (findObj_own hh ha hn hl) hv h

set_option tactic.hygienic true in
theorem osa_raw {R : Result → Shared → Prop} {tk : Tok} {es : Array DictEntry} {n : Nat} (X : K.In s.heap) (I : InstAt s.heap x ox C (some od)) (hd : ox.dict = some dx)
    (hp : plainOver K C = true) (ht : takerIn K C name = some none) (hh : hasDictIn K C = true)
    (hl : (lookIn name od).isSome = true) (e' : (Obj.putName name (PyData.keyHash w.params name) (.str name s.toks) v od).data = .dict es n) (hz : es.size ≤ 1000)
    (h : R (.ok (.ret .none)) { s with heap := s.heap.update dx (Obj.putName name (PyData.keyHash w.params name) (.str name s.toks) v), toks := s.toks + 1 }) :
    codeAny (model prog w) A (.call (.builtin "object.__setattr__") ⟨[.ref x, .str name tk, v], []⟩) R s := by
  refine osa_open X I hp ht fun b => ?_
  obtain ⟨cd, hc, hd'⟩ := any_some hh
  have D : s.heap.get? dx = some od := by have q := I.dict; rw [hd] at q; exact q
  have hf : (Obj.putName name (PyData.keyHash w.params name) (.str name s.toks) v od).isFreed = false := by
    revert e'; generalize Obj.putName name (PyData.keyHash w.params name) (.str name s.toks) v od = o'; intro e'
    obtain ⟨_, _, dd, _⟩ := o'; cases e'; rfl
  have D' := Heap.get?_update_self (Obj.putName name (PyData.keyHash w.params name) (.str name s.toks) v) D hf
  obtain ⟨hx, hcl, hn, -⟩ := I
  obtain ⟨oc, odi, oda, osl⟩ := ox
  dsimp only at hcl hd
  subst hcl hd
  refine wpAny_bind (wpAny_pure (wpAny_bind (wpAny_bind (wpAny_loadPart hx (wpAny_bind ((looks_clsIn X hc).here ?_))))))
  rw [hd']
  refine wpAny_pure (a := some dx) (wpAny_bind (wpAny_pure (wpAny_bind ?_)))
  unfold nsSet
  refine wpAny_bind (wpAny_bind (wpAny_askSetting (wpAny_pure (wpAny_bind (wpAny_mkText (wpAny_bind (wpAny_loadPart D ?_)))))))
  unfold lookIn at hl
  split at hl
  · rename_i es₀ n₀ q
    rw [q]
    dsimp only
    have c : (!es₀.any (·.key.isStr name) && es₀.any (·.refKey)) = false := by
      rw [← Array.any_toList, ← Array.any_toList]
      split at hl
      · rename_i en he
        rw [List.any_eq_true.mpr ⟨en, List.mem_of_find?_eq_some he, List.find?_some he⟩]; rfl
      · split at hl
        · cases hl
        · rename_i z; rw [Bool.not_eq_true] at z; rw [z, Bool.and_false]
    rw [aRefKeyMayBeTheName_at, c]
    refine wpAny_updatePart D ?_
    refine wpAny_bind (wpAny_lookBehind D' (by rw [e']; exact pastItsLine_dict (by rw [sizeLine_eq]; (first | lia | omega))) ?_)
    exact wpAny_pure h
  · cases hl

theorem sa_dict {es : Array DictEntry} {n : Nat} {Q : Unit → Shared → Prop} (X : K.In s.heap) (I : InstAt s.heap x ox C (some od)) (hd : ox.dict = some dx)
    (hs : findIn K (.ref C) "__setattr__" = some (some (.builtin "object.__setattr__"))) (hp : plainOver K C = true) (ht : takerIn K C name = some none) (hh : hasDictIn K C = true)
    (hl : (lookIn name od).isSome = true) (e' : (Obj.putName name (PyData.keyHash w.params name) (.str name (s.toks + 1)) v od).data = .dict es n) (hz : es.size ≤ 1000)
    (h : Q () { s with heap := s.heap.update dx (Obj.putName name (PyData.keyHash w.params name) (.str name (s.toks + 1)) v), toks := s.toks + 2 }) :
    wpAny (model prog w) A (setAttr (.ref x) name v) Q E s :=
  set_plain X I hs (osa_raw (s := { s with toks := s.toks + 1 }) X I hd hp ht hh hl e' hz h)

theorem ga_slot {expr : Bool} {p i : Nat} {Q : Value → Shared → Prop} (X : K.In s.heap) (I : InstAt s.heap x ox C (some od)) (hg : plainGet K C name = true) (hc : isClsIn K C = true)
    (ha : findIn K (.ref C) name = some (some (.ref p))) (hn : specialIn K (.ref p) "__get__" = some (some (.builtin "member_descriptor.__get__"))) (ht : takesIn K (.ref p) = some true) (hp : slotIn K p C = some i)
    (hv : (ox.slots[i]?).join = some v) (hh : handedIn v = true) (h : Q v { s with toks := s.toks + 1 }) : wpAny (model prog w) A (getAttr (.ref x) name expr) Q E s :=
  get_bind X I (plainGet_of hg).1 (findObj_data hc ha hn ht) (plainGet_of hg).2 (wpAny_call (slot_get (s := { s with toks := s.toks + 1 }) X I hp hv (handed_on hh h)))

noncomputable def putSlot (i : Nat) (v : Value) (o : Obj) : Obj := { o with slots := (o.slots ++ Array.replicate (i + 1 - o.slots.size) none).setIfInBounds i (some v) }
theorem slot_raw {R : Result → Shared → Prop} {p i : Nat} {od : Option Obj} (X : K.In s.heap) (I : InstAt s.heap x ox C od) (hi : slotIn K p C = some i) (hz : i < 1000)
    (h : R (.ok (.ret .none)) { s with heap := s.heap.update x (putSlot i v) }) : codeAny (model prog w) A (.call (.builtin "member_descriptor.__set__") ⟨[.ref p, .ref x, v], []⟩) R s := by
  obtain ⟨n, tn, owner, behind, tb, d, sl, cd, ho, hc, hm, hb, rfl⟩ := slot_of X hi
  obtain ⟨hh, g, dr, t, os⟩ := s
  have L0 := I.type (M := model prog w)
  have L1 := looks_mroIn (M := model prog w) X hm
  have L2 : Looks (model prog w) hh (Slots.slotNamesOf (.ref C)) cd.slotNames := (looks_clsIn X hc).andThen .now
  have hx := I.at_
  dsimp only at ho hx L0 L1
  have f0 := looks_field (M := model prog w) ho 0 (v := .str n tn) rfl
  have f1 := looks_field (M := model prog w) ho 1 (v := owner) rfl
  have f3 := looks_field (M := model prog w) ho 3 (v := .builtin "proto.slot#set") rfl
  have f4 := looks_field (M := model prog w) ho 4 (v := .int behind tb) rfl
  refine codeAny_call_builtin KF.slot_mset.plain KF.entry_mset (KF.slot_mset.check _ _ _ _ _ _ _ _ ⟨_, ho, rfl⟩ (KF.args_mset _ _ _) ?_)
  unfold Builtin.«member_descriptor.__set__» descrSet descrStoreThrough descrCheckInstance descrNameAndClass isInstance
  have f5 : Looks (model prog w) hh (descrItself (.ref p)) [.ref p] := ((Looks.ld (part := none) ho).andThen .now).andThen (Looks.of_pure (by kernel_rfl))
  repeat lk
  refine ⟨Code.quiet_builtin _ (by decide +kernel), codeAny_builtin KF.entry_slotset ?_⟩
  unfold Builtin.«proto.slot#set» Slots.target
  repeat lk
  rw [if_neg hb]
  refine wpAny_pure (wpAny_bind ?_)
  unfold setSlotAt
  dsimp only
  rw [if_neg (by rw [sizeLine_eq]; (first | lia | omega))]
  exact wpAny_updatePart hx (wpAny_pure h)
theorem sa_slot {p i : Nat} {od : Option Obj} {Q : Unit → Shared → Prop} (X : K.In s.heap) (I : InstAt s.heap x ox C od)
    (hs : findIn K (.ref C) "__setattr__" = some (some (.builtin "object.__setattr__"))) (hp : plainOver K C = true) (ht : takerIn K C name = some (some (.ref p))) (hT : typeIn K (.ref p) = some (.type "member_descriptor")) (hi : slotIn K p C = some i) (hz : i < 1000)
    (h : Q () { s with heap := s.heap.update x (putSlot i v), toks := s.toks + 1 }) : wpAny (model prog w) A (setAttr (.ref x) name v) Q E s :=
  set_plain X I hs (osa_descr (s := { s with toks := s.toks + 1 }) KF.slot_mset X I hp ht hT (slot_raw (s := { s with toks := s.toks + 1 }) X I hi hz h))
end
end
section
open PySem PySem.W PyProof.Rows PySem.Calls PySem.Spec

theorem fillme : (fun (_ : OpenLaw) (_ : Params → Frag) => True) PySem.Challenge.rw_xc0002_01 Mine.hd.heap_39 := by
  k_fill
  trivial

noncomputable def tsI (a d : Addr) : Reg := cell a (fun o => o = instObj 130 d)
noncomputable def tsEs (P : Params) (v1 v2 v3 v4 : Value) (t1 t2 t3 t4 : Nat) : List DictEntry :=
  [⟨PyData.keyHash P (Str.ofString "_node2info"), .str (Str.ofString "_node2info") t1, v1⟩, ⟨PyData.keyHash P (Str.ofString "_ready_nodes"), .str (Str.ofString "_ready_nodes") t2, v2⟩,
   ⟨PyData.keyHash P (Str.ofString "_npassedout"), .str (Str.ofString "_npassedout") t3, v3⟩, ⟨PyData.keyHash P (Str.ofString "_nfinished"), .str (Str.ofString "_nfinished") t4, v4⟩]
noncomputable def tsD (P : Params) (d : Addr) (v1 v2 v3 v4 : Value) : Reg := cell d (fun o => ∃ t1 t2 t3 t4 n, o = dictOf (tsEs P v1 v2 v3 v4 t1 t2 t3 t4) n)

noncomputable def star (rs : List Reg) : Reg where
  fp := rs.flatMap (·.fp)
  P h := (∀ r ∈ rs, r.P h) ∧ rs.Pairwise (fun (r r' : Reg) => ∀ a : Addr, a ∈ r.fp → a ∉ r'.fp)
  alive h x a ha := by
    obtain ⟨r, hr, har⟩ := List.mem_flatMap.mp ha
    exact r.alive h (x.1 r hr) a har
  mono h h' k x := ⟨fun r hr => r.mono h h' (fun a ha => k a (List.mem_flatMap.mpr ⟨r, hr, ha⟩)) (x.1 r hr), x.2⟩

noncomputable def many (n : Nat) (f : Nat → Reg) : Reg := star ((List.range n).map f)
theorem many_get {n k : Nat} {f : Nat → Reg} {h : Heap} (x : (many n f).P h) (hk : k < n) : (f k).P h := x.1 _ (List.mem_map.mpr ⟨k, List.mem_range.mpr hk, rfl⟩)

namespace St
variable {B : Bs} {s s' : Shared} {l l' : List Reg}
theorem repMany {n k : Nat} {f f' : Nat → Reg} (H : St B s l) (R : Rep (many n f) (many n f') l l') (hk : k < n) (hf : ∀ j, j ≠ k → f' j = f j)
    (ge : s'.gens = s.gens) (dr : s'.drawn = s.drawn) (os : s'.os = s.os)
    (m : ∀ a o, s.heap.get? a = some o → a ∉ (f k).fp → s'.heap.get? a = some o) (p : (f' k).P s'.heap) (hp : ∀ a ∈ (f' k).fp, a ∈ (f k).fp) : St B s' l' := by
  have HP := H.get R.mem
  have mem : ∀ j, j < n → ∀ a, a ∈ (f j).fp → a ∈ (many n f).fp := fun j hj a ha => List.mem_flatMap.mpr ⟨f j, List.mem_map.mpr ⟨j, List.mem_range.mpr hj, rfl⟩, ha⟩
  have pw := List.pairwise_map.mp HP.2
  have dis : ∀ i j, i < n → j < n → i ≠ j → ∀ a ∈ (f i).fp, a ∉ (f j).fp := by
    have q := List.pairwise_iff_getElem.mp pw
    have one : ∀ i j, i < n → j < n → i < j → ∀ a ∈ (f i).fp, a ∉ (f j).fp := fun i j hi hj hij => by
      have := q i j (by simpa using hi) (by simpa using hj) hij
      simpa using this
    intro i j hi hj hij a ha hb
    rcases Nat.lt_or_gt_of_ne hij with h | h
    · exact one i j hi hj h a ha hb
    · exact one j i hj hi h a hb ha
  refine H.rep R ge dr os (fun a o e n => m a o e fun q => n (mem k hk a q)) ⟨fun r hr => ?_, ?_⟩ fun a ha => ?_
  · obtain ⟨j, hj, rfl⟩ := List.mem_map.mp hr
    have hj := List.mem_range.mp hj
    by_cases e : j = k
    · subst e; exact p
    · rw [hf j e]
      refine (f j).mono s.heap s'.heap (fun a ha => ?_) (many_get HP hj)
      obtain ⟨o, ho⟩ := (f j).alive _ (many_get HP hj) a ha
      rw [ho]; exact m a o ho fun q => dis j k hj hk e a ha q
  · refine List.pairwise_map.mpr (List.pairwise_iff_getElem.mpr fun i j hi hj hij a ha hb => ?_)
    simp only [List.length_range] at hi hj
    simp only [List.getElem_range] at ha hb
    have ha' : a ∈ (f i).fp := by
      by_cases e : i = k
      · rw [e] at ha ⊢; exact hp a ha
      · rw [hf i e] at ha; exact ha
    have hb' : a ∈ (f j).fp := by
      by_cases e : j = k
      · rw [e] at hb ⊢; exact hp a hb
      · rw [hf j e] at hb; exact hb
    exact dis i j hi hj (Nat.ne_of_lt hij) a ha' hb'
  · obtain ⟨r, hr, har⟩ := List.mem_flatMap.mp ha
    obtain ⟨j, hj, rfl⟩ := List.mem_map.mp hr
    have hj := List.mem_range.mp hj
    refine .inl (mem j hj a ?_)
    by_cases e : j = k
    · rw [e] at har ⊢; exact hp a har
    · rw [hf j e] at har; exact har
end St

section
variable {prog : Program} {w : World} {A : Around} {E : Value → Shared → Prop} {s : Shared} {B : Bs} {l l' : List Reg} {a d : Addr} {v v1 v2 v3 v4 : Value}

theorem ts_inst (H : St B s l) (h1 : tsI a d ∈ l) (h2 : tsD w.params d v1 v2 v3 v4 ∈ l) : ∃ t1 t2 t3 t4 n, InstAt s.heap a (instObj 130 d) 130 (some (dictOf (tsEs w.params v1 v2 v3 v4 t1 t2 t3 t4) n)) := by
  obtain ⟨o, ho, rfl⟩ := H.get h1
  obtain ⟨o, ho', t1, t2, t3, t4, n, rfl⟩ := H.get h2
  exact ⟨t1, t2, t3, t4, n, ho, rfl, rfl, ho'⟩

theorem ga_n2i {expr : Bool} {Q : Value → Shared → Prop} (H : St B s l) (G : Gd (hd.heap_39 w.params) B.g) (h1 : tsI a d ∈ l) (h2 : tsD w.params d v1 v2 v3 v4 ∈ l) (hv : handedIn v1 = true)
    (h : ∀ s', St B s' l → Q v1 s') : wpAny (model prog w) A (getAttr (.ref a) (Str.ofString "_node2info") expr) Q E s := by
  obtain ⟨t1, t2, t3, t4, n, I⟩ := ts_inst H h1 h2
  exact ga_dict (H.kin G) I (by k_is) (by k_is) (by k_is) (by k_is) rfl hv (h _ (H.toks _))
theorem ga_ready {expr : Bool} {Q : Value → Shared → Prop} (H : St B s l) (G : Gd (hd.heap_39 w.params) B.g) (h1 : tsI a d ∈ l) (h2 : tsD w.params d v1 v2 v3 v4 ∈ l) (hv : handedIn v2 = true)
    (h : ∀ s', St B s' l → Q v2 s') : wpAny (model prog w) A (getAttr (.ref a) (Str.ofString "_ready_nodes") expr) Q E s := by
  obtain ⟨t1, t2, t3, t4, n, I⟩ := ts_inst H h1 h2
  exact ga_dict (H.kin G) I (by k_is) (by k_is) (by k_is) (by k_is) rfl hv (h _ (H.toks _))
theorem ga_out {expr : Bool} {Q : Value → Shared → Prop} (H : St B s l) (G : Gd (hd.heap_39 w.params) B.g) (h1 : tsI a d ∈ l) (h2 : tsD w.params d v1 v2 v3 v4 ∈ l) (hv : handedIn v3 = true)
    (h : ∀ s', St B s' l → Q v3 s') : wpAny (model prog w) A (getAttr (.ref a) (Str.ofString "_npassedout") expr) Q E s := by
  obtain ⟨t1, t2, t3, t4, n, I⟩ := ts_inst H h1 h2
  exact ga_dict (H.kin G) I (by k_is) (by k_is) (by k_is) (by k_is) rfl hv (h _ (H.toks _))
theorem ga_fin {expr : Bool} {Q : Value → Shared → Prop} (H : St B s l) (G : Gd (hd.heap_39 w.params) B.g) (h1 : tsI a d ∈ l) (h2 : tsD w.params d v1 v2 v3 v4 ∈ l) (hv : handedIn v4 = true)
    (h : ∀ s', St B s' l → Q v4 s') : wpAny (model prog w) A (getAttr (.ref a) (Str.ofString "_nfinished") expr) Q E s := by
  obtain ⟨t1, t2, t3, t4, n, I⟩ := ts_inst H h1 h2
  exact ga_dict (H.kin G) I (by k_is) (by k_is) (by k_is) (by k_is) rfl hv (h _ (H.toks _))

theorem sa_ready {Q : Unit → Shared → Prop} (H : St B s l) (G : Gd (hd.heap_39 w.params) B.g) (h1 : tsI a d ∈ l) (R : Rep (tsD w.params d v1 v2 v3 v4) (tsD w.params d v1 v v3 v4) l l')
    (h : ∀ s', St B s' l' → Q () s') : wpAny (model prog w) A (setAttr (.ref a) (Str.ofString "_ready_nodes") v) Q E s := by
  obtain ⟨t1, t2, t3, t4, n, I⟩ := ts_inst H h1 R.mem
  refine sa_dict (H.kin G) I rfl (by k_is) (by k_is) (by k_is) (by k_is) rfl (es := (tsEs w.params v1 v v3 v4 t1 t2 t3 t4).toArray) (n := n) (by rw [putName_dict]; rfl) (Nat.le_of_ble_eq_true rfl) (h _ ?_)
  refine H.rep R rfl rfl rfl (fun b o e z => (Heap.get?_update_other _ _ (fun q => z (by show b ∈ [d]; rw [q]; exact List.mem_singleton.mpr rfl))).trans e) ⟨_, Heap.get?_update_self _ I.dict (by rw [putName_dict]; rfl), ?_⟩ fun _ h => .inl h
  rw [putName_dict]; exact ⟨t1, t2, t3, t4, n, rfl⟩
end
end
section
open PySem PySem.W PyProof.Rows PySem.Calls PySem.Spec


structure Lay where
  a : Addr
  d : Addr
  n : Addr
  i : Nat → Addr
  e : Nat → Addr
  s : Nat → Addr

noncomputable def ilst (a : Addr) (xs : List Int) : Reg := cell a (fun o => ∃ vs n, o = PySem.W.listOf vs.toArray n ∧ IntsAre vs xs)
noncomputable def itup (a : Addr) (xs : List Int) : Reg := cell a (fun o => ∃ vs n, o = ({ cls := .type "tuple", data := .seq vs.toArray n } : Obj) ∧ IntsAre vs xs)
noncomputable def vlst (a : Addr) (vs : List Value) : Reg := cell a (fun o => ∃ n, o = PySem.W.listOf vs.toArray n)

noncomputable def niObj (S : Lay) (k : Nat) (c : Int) (t1 t2 : Nat) : Obj := { cls := .ref 33, dict := some (S.e k), data := .plain, slots := #[some (.int k t1), some (.int c t2), some (.ref (S.s k))] }
noncomputable def niC (S : Lay) (k : Nat) (c : Int) : Reg where
  fp := [S.i k, S.e k]
  P h := (∃ t1 t2, h.get? (S.i k) = some (niObj S k c t1 t2)) ∧ h.get? (S.e k) = some emptyDict
  alive h x b hb := by
    simp only [List.mem_cons, List.not_mem_nil, or_false] at hb
    rcases hb with rfl | rfl
    · obtain ⟨t1, t2, h⟩ := x.1; exact ⟨_, h⟩
    · exact ⟨_, x.2⟩
  mono h h' k x := by
    obtain ⟨⟨t1, t2, h1⟩, h2⟩ := x
    exact ⟨⟨t1, t2, (k _ (.head _)).trans h1⟩, (k _ (.tail _ (.head _))).trans h2⟩
noncomputable def ni (S : Lay) (np : Nat → Int) (k : Nat) : Reg := niC S k (np k)
noncomputable def sl (S : Lay) (succ : Nat → List Int) (k : Nat) : Reg := ilst (S.s k) (succ k)

noncomputable def n2i (S : Lay) (n : Nat) : Reg := cell S.n (fun o => (S.n == sysModules) = false ∧ ∃ es ep, o = ({ cls := .type "dict", data := .dict es ep } : Obj) ∧ es.size = n ∧ ∀ j < n, ∃ t, es[j]? = some ⟨hashInt j, .int j t, .ref (S.i j)⟩)

section
variable {prog : Program} {w : World} {A : Around} {E : Value → Shared → Prop} {s : Shared} {B : Bs} {l l' : List Reg} {a d : Addr} {v v1 v2 v3 v4 : Value} {S : Lay} {n k : Nat} {np np' : Nat → Int} {succ succ' : Nat → List Int}

theorem sa_out {Q : Unit → Shared → Prop} (H : St B s l) (G : Gd (hd.heap_39 w.params) B.g) (h1 : tsI a d ∈ l) (R : Rep (tsD w.params d v1 v2 v3 v4) (tsD w.params d v1 v2 v v4) l l')
    (h : ∀ s', St B s' l' → Q () s') : wpAny (model prog w) A (setAttr (.ref a) (Str.ofString "_npassedout") v) Q E s := by
  obtain ⟨t1, t2, t3, t4, n, I⟩ := ts_inst H h1 R.mem
  refine sa_dict (H.kin G) I rfl (by k_is) (by k_is) (by k_is) (by k_is) rfl (es := (tsEs w.params v1 v2 v v4 t1 t2 t3 t4).toArray) (n := n) (by rw [putName_dict]; rfl) (Nat.le_of_ble_eq_true rfl) (h _ ?_)
  refine H.rep R rfl rfl rfl (fun b o e z => (Heap.get?_update_other _ _ (fun q => z (by show b ∈ [d]; rw [q]; exact List.mem_singleton.mpr rfl))).trans e) ⟨_, Heap.get?_update_self _ I.dict (by rw [putName_dict]; rfl), ?_⟩ fun _ h => .inl h
  rw [putName_dict]; exact ⟨t1, t2, t3, t4, n, rfl⟩
theorem sa_fin {Q : Unit → Shared → Prop} (H : St B s l) (G : Gd (hd.heap_39 w.params) B.g) (h1 : tsI a d ∈ l) (R : Rep (tsD w.params d v1 v2 v3 v4) (tsD w.params d v1 v2 v3 v) l l')
    (h : ∀ s', St B s' l' → Q () s') : wpAny (model prog w) A (setAttr (.ref a) (Str.ofString "_nfinished") v) Q E s := by
  obtain ⟨t1, t2, t3, t4, n, I⟩ := ts_inst H h1 R.mem
  refine sa_dict (H.kin G) I rfl (by k_is) (by k_is) (by k_is) (by k_is) rfl (es := (tsEs w.params v1 v2 v3 v t1 t2 t3 t4).toArray) (n := n) (by rw [putName_dict]; rfl) (Nat.le_of_ble_eq_true rfl) (h _ ?_)
  refine H.rep R rfl rfl rfl (fun b o e z => (Heap.get?_update_other _ _ (fun q => z (by show b ∈ [d]; rw [q]; exact List.mem_singleton.mpr rfl))).trans e) ⟨_, Heap.get?_update_self _ I.dict (by rw [putName_dict]; rfl), ?_⟩ fun _ h => .inl h
  rw [putName_dict]; exact ⟨t1, t2, t3, t4, n, rfl⟩

theorem gm_ts {name : Str} {f : Addr} {pl : Sem Bool} {Q : Value × List Value → Shared → Prop} (H : St B s l) (G : Gd (hd.heap_39 w.params) B.g) (h1 : tsI a d ∈ l) (h2 : tsD w.params d v1 v2 v3 v4 ∈ l)
    (hg : plainGet (hd.heap_39 w.params) 130 name = true) (hf : findIn (hd.heap_39 w.params) (.ref 130) name = some (some (.ref f))) (ht : typeIn (hd.heap_39 w.params) (.ref f) = some (.type "function"))
    (hs : ∀ t1 t2 t3 t4 n, lookIn name (dictOf (tsEs w.params v1 v2 v3 v4 t1 t2 t3 t4) n) = some none) (h : Q (.ref f, [.ref a]) s) : wpAny (model prog w) A (getMethod (.ref a) name pl) Q E s := by
  obtain ⟨t1, t2, t3, t4, n, I⟩ := ts_inst H h1 h2
  exact method_fn (H.kin G) I (plainGet_of hg).1 (plainGet_of hg).2 hf ht (by show (lookIn name _).map _ = _; rw [hs]; rfl) h

theorem ni_inst (x : (ni S np k).P s.heap) : ∃ t1 t2, InstAt s.heap (S.i k) (niObj S k (np k) t1 t2) 33 (some emptyDict) := by
  obtain ⟨⟨t1, t2, h1⟩, h2⟩ := x
  exact ⟨t1, t2, h1, rfl, rfl, h2⟩
theorem ga_node {expr : Bool} {Q : Value → Shared → Prop} (H : St B s l) (G : Gd (hd.heap_39 w.params) B.g) (h1 : many n (ni S np) ∈ l) (hk : k < n)
    (h : ∀ t s', St B s' l → Q (.int k t) s') : wpAny (model prog w) A (getAttr (.ref (S.i k)) (Str.ofString "node") expr) Q E s := by
  obtain ⟨t1, t2, I⟩ := ni_inst (many_get (H.get h1) hk)
  exact ga_slot (H.kin G) I (by k_is) (by k_is) (by k_is) (by k_is) (by k_is) (by k_is) rfl rfl (h t1 _ (H.toks _))
theorem ga_np {expr : Bool} {Q : Value → Shared → Prop} (H : St B s l) (G : Gd (hd.heap_39 w.params) B.g) (h1 : many n (ni S np) ∈ l) (hk : k < n)
    (h : ∀ t s', St B s' l → Q (.int (np k) t) s') : wpAny (model prog w) A (getAttr (.ref (S.i k)) (Str.ofString "npredecessors") expr) Q E s := by
  obtain ⟨t1, t2, I⟩ := ni_inst (many_get (H.get h1) hk)
  exact ga_slot (H.kin G) I (by k_is) (by k_is) (by k_is) (by k_is) (by k_is) (by k_is) rfl rfl (h t2 _ (H.toks _))
theorem ga_succ {expr : Bool} {Q : Value → Shared → Prop} (H : St B s l) (G : Gd (hd.heap_39 w.params) B.g) (h1 : many n (ni S np) ∈ l) (hk : k < n)
    (h : ∀ s', St B s' l → Q (.ref (S.s k)) s') : wpAny (model prog w) A (getAttr (.ref (S.i k)) (Str.ofString "successors") expr) Q E s := by
  obtain ⟨t1, t2, I⟩ := ni_inst (many_get (H.get h1) hk)
  exact ga_slot (H.kin G) I (by k_is) (by k_is) (by k_is) (by k_is) (by k_is) (by k_is) rfl rfl (h _ (H.toks _))
theorem sa_np {c : Int} {t : Nat} {Q : Unit → Shared → Prop} (H : St B s l) (G : Gd (hd.heap_39 w.params) B.g) (R : Rep (many n (ni S np)) (many n (ni S np')) l l') (hk : k < n)
    (hc : np' k = c) (ho : ∀ j, j ≠ k → np' j = np j) (h : ∀ s', St B s' l' → Q () s') : wpAny (model prog w) A (setAttr (.ref (S.i k)) (Str.ofString "npredecessors") (.int c t)) Q E s := by
  have hP := many_get (H.get R.mem) hk
  obtain ⟨t1, t2, I⟩ := ni_inst hP
  refine sa_slot (H.kin G) I (by k_is) (by k_is) (by k_is) (by k_is) (by k_is) (by decide) (h _ ?_)
  have ie : S.e k ≠ S.i k := fun e => by have h1 := I.at_; have h2 := hP.2; rw [e, h1] at h2; simp [niObj] at h2
  refine H.repMany R hk (fun j hj => congrArg (niC S j) (ho j hj)) rfl rfl rfl (fun b o e z => (Heap.get?_update_other _ _ (fun q => z (by show b ∈ [S.i k, S.e k]; rw [q]; exact .head _))).trans e) ⟨⟨t1, t, ?_⟩, (Heap.get?_update_other _ _ (Ne.symm ie)).trans hP.2⟩ fun _ h => h
  refine (Heap.get?_update_self _ I.at_ rfl).trans ?_
  rw [hc]; rfl
end
end
section
open PySem PySem.W PyProof.Rows PySem.Calls PySem.Spec


theorem sl_call {prog : Program} {w : World} {A : Around} {s : Shared} {B : Bs} {l : List Reg} {K : Frag}
    {R : Result → Shared → Prop} {name qual : Str} {params : Arguments} {body : List Stmt} {scope : Scope} {dV kV doc pm cdv ct oc : Value} {an od : Option Addr} {osl : Array (Option Value)} {f : Addr} {args : Args} {binds : List (Str × Value)}
    (H : St B s l) (G : Gd K B.g)
    (ho : K.lookup f = some ⟨oc, od, .func (fnOf name qual params body scope dV kV doc pm an cdv ct), osl⟩) (hcd : codeIn K cdv qual = true) (hroom : A.depth < recursionLimit)
    (hbind : BindsTo s (fnOf name qual params body scope dV kV doc pm an cdv ct) args binds) (hloc : ∀ y ∈ binds, scope.names.lookup y.1 = some .local)
    {fs : List (Str × Value)} (hfs : binds.reverse = fs) (h : ∀ L s', St B s' (frame L fs :: l) →
      wpAny (model prog w) (A.deeper (envOf qual scope L f cdv)) (execs body (envOf qual scope L f cdv))
        (fun fl s' => R (.ok (.ret (match fl with | .ret v => v | _ => .none))) s')
        (fun e s' => wpAny (model prog w) (A.deeper (envOf qual scope L f cdv)) (leaving (envOf qual scope L f cdv) e) (fun _ s'' => R (.error e) s'') (fun e' s'' => R (.error e') s'') s') s')
    (hco : scope.isCoroutine = false) (hgen : scope.isGenerator = false) (hk : scope.kind = .function)
    (hcell : ∀ x ∈ scope.names, x.2 ≠ .cell) : codeAny (model prog w) A (.call (.ref f) args) R s := by
  subst hfs
  have X := H.kin G
  refine codeAny_call_def (fd := fnOf name qual params body scope dV kV doc pm an cdv ct) (body := body) (binds := binds) hroom (X _ _ ho) rfl (G.lim.keeps H.keep) (codeRec_of X hcd) rfl hbind hcell hloc (fun h₁ hns hk₁ => ?_) hco hgen hk
  refine h s.heap.objs.size _ (H.add rfl rfl rfl (fun a o e => hk₁ a o e) ⟨_, hns, fun _ _ e => e⟩ fun a ha => ?_)
  rw [List.mem_singleton.mp ha]
  cases q : s.heap.get? s.heap.objs.size with
  | none => rfl
  | some o' => exact absurd (Heap.lt_size q) (Nat.lt_irrefl _)

theorem sl_call0 {prog : Program} {w : World} {A : Around} {s : Shared} {B : Bs} {l : List Reg} {K : Frag}
    {R : Result → Shared → Prop} {name qual : Str} {params : Arguments} {body : List Stmt} {scope : Scope} {dV kV doc pm cdv ct oc : Value} {an od : Option Addr} {osl : Array (Option Value)} {f : Addr} {args : Args} {binds : List (Str × Value)}
    (H : St B s l) (G : Gd K B.g)
    (ho : K.lookup f = some ⟨oc, od, .func (fnOf name qual params body scope dV kV doc pm an cdv ct), osl⟩) (hcd : codeIn K cdv qual = true) (hroom : A.depth < recursionLimit)
    (hbind : BindsTo s (fnOf name qual params body scope dV kV doc pm an cdv ct) args binds) (hloc : ∀ y ∈ binds, scope.names.lookup y.1 = some .local)
    {fs : List (Str × Value)} (hfs : binds.reverse = fs) (h : ∀ L s', St B s' (frame L fs :: l) →
      wpAny (model prog w) (A.deeper (envOf qual scope L f cdv)) (execs body (envOf qual scope L f cdv))
        (fun fl s' => R (.ok (.ret (match fl with | .ret v => v | _ => .none))) s') (fun _ _ => False) s')
    (hco : scope.isCoroutine = false) (hgen : scope.isGenerator = false) (hk : scope.kind = .function)
    (hcell : ∀ x ∈ scope.names, x.2 ≠ .cell) : codeAny (model prog w) A (.call (.ref f) args) R s :=
  sl_call H G ho hcd hroom hbind hloc hfs (fun L s' H' => wpAny_mono (h L s' H') (fun _ _ x => x) fun _ _ x => x.elim) hco hgen hk hcell

section
variable {M : Model} {A : Around} {E : Value → Shared → Prop} {s : Shared} {B : Bs} {l l' : List Reg} {qual : Str} {scope : Scope} {L f : Addr} {cd : Value} {fs : List (Str × Value)} {x : Str} {v : Value} {K : Frag}
theorem nm_l {pos : Pos} {Q : Value → Shared → Prop} (H : St B s l) (hm : frame L fs ∈ l) (hv : fs.lookup x = some v) (h : Q v s)
    (hk : scope.kind = .function) (hl : (envOf qual scope L f cd).kindOf x = some .local) (hd : (x == ("__debug__" : Str)) = false) :
    wpAny M A (eval (.Name x pos) (envOf qual scope L f cd)) Q E s := name_l (env := envOf qual scope L f cd) H hm hv h hk hl hd
theorem nm_g {pos : Pos} {Q : Value → Shared → Prop} (H : St B s l) (G : Gd K B.g) (e : nsIn K mainGlobals x = some (some v)) (h : Q v s)
    (hk : scope.kind = .function) (hl : (envOf qual scope L f cd).kindOf x = some .globalImplicit) (hd : (x == ("__debug__" : Str)) = false) :
    wpAny M A (eval (.Name x pos) (envOf qual scope L f cd)) Q E s := name_g (env := envOf qual scope L f cd) H G e h hk hl rfl hd
theorem nm_b {pos : Pos} {Q : Value → Shared → Prop} (H : St B s l) (G : Gd K B.g) (e : nsIn K mainGlobals x = some none) (hv : bootBuiltins x = some v) (h : Q v s)
    (hn : x ≠ "__name__") (hk : scope.kind = .function) (hl : (envOf qual scope L f cd).kindOf x = some .globalImplicit)
    (hd : (x == ("__debug__" : Str)) = false) : wpAny M A (eval (.Name x pos) (envOf qual scope L f cd)) Q E s := name_b (env := envOf qual scope L f cd) H G e hv h hn hk hl rfl rfl hd
theorem st_l {Q : Unit → Shared → Prop} (H : St B s l) (R : Rep (frame L fs) (frame L ((x, v) :: fs)) l l') (h : ∀ s', St B s' l' → Q () s')
    (hl : (envOf qual scope L f cd).kindOf x = some .local) (hk : scope.kind = .function) :
    wpAny M A (storeName (envOf qual scope L f cd) x v) Q E s := by
  obtain ⟨p, q, rfl, rfl⟩ := R.split
  exact store_l (env := envOf qual scope L f cd) (H.perm List.perm_middle) (fun s' H' => h s' (H'.perm List.perm_middle.symm)) hl (by show (scope.kind == .class || (scope.kind == .module && L != mainGlobals)) = false; rw [hk]; rfl)
end
theorem b_ff {c : Bool} {P Q : Prop} (h : Q) (hc : c = false) : if c = true then P else Q := by rw [hc]; exact h
theorem b_tt {c : Bool} {P Q : Prop} (h : P) (hc : c = true) : if c = true then P else Q := by rw [hc]; exact h
end
section
open PySem PySem.W PyProof.Rows PySem.Calls PySem.Spec

theorem meets_bool_list (l : Addr) (items : Array Value) (hfit : (items.size : Int) < 2 ^ 63) : Meets (Builtin.«bool.__new__» ⟨[.type "bool", .ref l], []⟩)
    (fun _ R s => s.heap.IsList l items ∧ R (.ok (.ret (.bool (!items.isEmpty)))) { s with toks := s.toks + 1 + 1 }) :=
  Meets.of_wp fun prog w A R s hs => by
    obtain ⟨hp, g, d, tk, os⟩ := s
    obtain ⟨hl, h⟩ := hs
    have f1 := F.conv_sub_bool
    have step : ∀ {Q : Bool → Shared → Prop} {E}, Q (!items.isEmpty) ⟨hp, g, d, tk + 1 + 1, os⟩ → wpAny (model prog w) A.in1 (truthy (.ref l)) Q E ⟨hp, g, d, tk, os⟩ := fun h => wpAny_truthy_list hl hfit h
    repeat (any_goals (first | assumption | with_reducible apply step | wp_step))
    all_goals first | exact ⟨_, rfl, h⟩ | skip

theorem ints_len {vs : List Value} {xs : List Int} (h : IntsAre vs xs) : vs.length = xs.length := h.length
theorem ints_append {vs vs' : List Value} {xs xs' : List Int} (h : IntsAre vs xs) (h' : IntsAre vs' xs') : IntsAre (vs ++ vs') (xs ++ xs') := by
  induction h with
  | nil => exact h'
  | cons n t _ ih => exact .cons n t ih
theorem ints_at {vs : List Value} {xs : List Int} (h : IntsAre vs xs) (i : Nat) (hi : i < xs.length) : ∃ t, vs[i]? = some (.int xs[i] t) := by
  obtain ⟨t, ht⟩ := h.get i xs[i] (by simp [hi])
  exact ⟨t, ht⟩

noncomputable def nothing : Reg := ⟨[], fun _ => True, (fun _ _ _ h => nomatch h), fun _ _ _ _ => trivial⟩
theorem St.drop {B : Bs} {s s' : Shared} {l : List Reg} {r : Reg} (H : St B s (r :: l)) (ge : s'.gens = s.gens) (dr : s'.drawn = s.drawn) (os : s'.os = s.os)
    (m : ∀ a o, s.heap.get? a = some o → a ∉ r.fp → s'.heap.get? a = some o) : St B s' l :=
  (H.step (r' := nothing) ge dr os m trivial (fun _ h => nomatch h)).tail
theorem St.new1 {B : Bs} {s : Shared} {l : List Reg} {o : Obj} {p : Obj → Prop} (H : St B s l) (hf : o.isFreed = false) (hp : p o) : St B { s with heap := s.heap.push o } (cell s.heap.objs.size p :: l) := H.push hf hp s.toks

noncomputable def liter (it r : Addr) (i : Nat) : Reg := cell it (fun o => o.cls = .type "list_iterator" ∧ o.data = .fields #[.ref r, .int i 0])
noncomputable def titer (it r : Addr) (i : Nat) : Reg := cell it (fun o => o.cls = .type "tuple_iterator" ∧ o.data = .fields #[.ref r, .int i 0])

section
variable {prog : Program} {w : World} {A : Around} {E : Value → Shared → Prop} {s : Shared} {B : Bs} {l l' : List Reg} {r t it : Addr} {xs : List Int} {v : Value}

theorem ilst_is (H : St B s l) (h : ilst r xs ∈ l) : ∃ vs, IntsAre vs xs ∧ s.heap.IsList r vs.toArray := by
  obtain ⟨o, ho, vs, n, rfl, hv⟩ := H.get h
  exact ⟨vs, hv, _, ho, rfl, n, rfl⟩
theorem itup_is (H : St B s l) (h : itup r xs ∈ l) : ∃ vs, IntsAre vs xs ∧ s.heap.IsTuple r vs.toArray := by
  obtain ⟨o, ho, vs, n, rfl, hv⟩ := H.get h
  exact ⟨vs, hv, _, ho, rfl, n, rfl⟩

theorem isEmpty_ints {vs : List Value} {xs : List Int} (h : IntsAre vs xs) : vs.toArray.isEmpty = xs.isEmpty := by
  cases h <;> rfl

theorem truthy_ilst {Q : Bool → Shared → Prop} (H : St B s l) (hm : ilst r xs ∈ l) (hz : xs.length ≤ 1000) (h : ∀ s', St B s' l → Q (!xs.isEmpty) s') : wpAny (model prog w) A (truthy (.ref r)) Q E s := by
  obtain ⟨vs, hv, hl⟩ := ilst_is H hm
  refine wpAny_truthy_list hl (by rw [List.size_toArray, ints_len hv]; (first | lia | omega)) ?_
  rw [isEmpty_ints hv]; exact h _ (H.toks _)
theorem bool_ilst {Q : Value → Shared → Prop} (H : St B s l) (hm : ilst r xs ∈ l) (hz : xs.length ≤ 1000) (h : ∀ s', St B s' l → Q (.bool (!xs.isEmpty)) s') : wpAny (model prog w) A (call (.type "bool") [.ref r]) Q E s := by
  obtain ⟨vs, hv, hl⟩ := ilst_is H hm
  refine call_bool_1 (meets_bool_list r vs.toArray (by rw [List.size_toArray, ints_len hv]; (first | lia | omega))) ⟨hl, rfl, ?_⟩
  rw [isEmpty_ints hv]; exact h _ (H.toks _)
theorem len_itup {Q : Value → Shared → Prop} (H : St B s l) (hm : itup r xs ∈ l) (hz : xs.length ≤ 1000) (h : ∀ t s', St B s' l → Q (.int xs.length t) s') : wpAny (model prog w) A (call (.builtin "len") [.ref r]) Q E s := by
  obtain ⟨vs, hv, hl⟩ := itup_is H hm
  refine PyProof.Rows.len_tuple hl (by rw [List.size_toArray, ints_len hv]; (first | lia | omega)) ?_
  rw [List.size_toArray, ints_len hv]; exact h _ _ (H.toks _)
theorem len_ilst {Q : Value → Shared → Prop} (H : St B s l) (hm : ilst r xs ∈ l) (hz : xs.length ≤ 1000) (h : ∀ t s', St B s' l → Q (.int xs.length t) s') : wpAny (model prog w) A (call (.builtin "len") [.ref r]) Q E s := by
  obtain ⟨vs, hv, hl⟩ := ilst_is H hm
  refine PyProof.Rows.len_list hl (by rw [List.size_toArray, ints_len hv]; (first | lia | omega)) ?_
  rw [List.size_toArray, ints_len hv]; exact h _ _ (H.toks _)
theorem tuple_ilst {Q : Value → Shared → Prop} (H : St B s l) (hm : ilst r xs ∈ l) (hz : xs.length ≤ 1000) (h : ∀ t s', St B s' (itup t xs :: l) → Q (.ref t) s') : wpAny (model prog w) A (call (.type "tuple") [.ref r]) Q E s := by
  obtain ⟨vs, hv, hl⟩ := ilst_is H hm
  refine call_tuple_list hl (fun h' hk => h _ _ ?_) (by rw [List.size_toArray, ints_len hv, sizeLine_eq]; (first | lia | omega))
  have H1 : St B { s with heap := h' } l := H.same rfl rfl rfl hk
  exact H1.new1 rfl ⟨vs, 0, rfl, hv⟩
theorem append_ilst {x : Int} {tk : Nat} {Q : Value → Shared → Prop} (H : St B s l) (R : Rep (ilst r xs) (ilst r (xs ++ [x])) l l') (hz : xs.length ≤ 1000) (h : ∀ s', St B s' l' → Q .none s') :
    wpAny (model prog w) A (call (.builtin "list.append") [.ref r, .int x tk]) Q E s := by
  obtain ⟨o, ho, vs, n, rfl, hv⟩ := H.get R.mem
  refine wpAny_list_append_plain ⟨n, ho⟩ (fun h' hp hs => h _ ?_) (by rw [List.size_toArray, ints_len hv, sizeLine_eq]; (first | lia | omega))
  obtain ⟨n', ho'⟩ := hp
  refine H.same1 R hs ⟨_, ho', vs ++ [.int x tk], n', ?_, ints_append hv (.cons x tk .nil)⟩ s.toks
  rw [List.push_toArray]
theorem clear_ilst {Q : Value → Shared → Prop} (H : St B s l) (R : Rep (ilst r xs) (ilst r []) l l') (hz : xs.length ≤ 1000) (h : ∀ s', St B s' l' → Q .none s') :
    wpAny (model prog w) A (call (.builtin "list.clear") [.ref r]) Q E s := by
  obtain ⟨o, ho, vs, n, rfl, hv⟩ := H.get R.mem
  refine call_meets F.slot_list_clear ⟨_, ho, rfl⟩ F.entry_list_clear (F.args_list_clear_1 _) (AutoSeq1.list_clear_list_0 r vs.toArray n (by rw [List.size_toArray, ints_len hv, sizeLine_eq]; (first | lia | omega))) ⟨ho, h _ ?_⟩
  refine H.upd1 R (fun o ho => ?_) s.toks
  obtain ⟨vs, n, rfl, hv⟩ := ho
  exact ⟨⟨[], _, rfl, .nil⟩, rfl⟩

theorem gm_list {name : Str} {id : String} {pl : Sem Bool} {Q : Value × List Value → Shared → Prop} (H : St B s l) (hm : ilst r xs ∈ l) (slot : Slot "list" name id) (hty : typeOf (.builtin id) = pure (.type "method_descriptor")) (h : Q (.builtin id, [.ref r]) s) :
    wpAny (model prog w) A (getMethod (.ref r) name pl) Q E s := by
  obtain ⟨o, ho, vs, n, rfl, hv⟩ := H.get hm
  exact getMethod_builtin ⟨_, ho, rfl⟩ F.plainAttrs_list slot hty (fun a e => by cases e; exact ⟨_, ho, rfl⟩) h

set_option tactic.hygienic true in
theorem for_ilst {x : Str} {px : Pos} {body : List Stmt} {env : Env} {R : Result → Shared → Prop} (I : Nat → List Reg → Prop) (hh : A.handled = none)
    (H : St B s (liter it r 0 :: l)) (h0 : I 0 l) (hl : ∀ i l, I i l → ilst r xs ∈ l)
    (turn : ∀ i t l₁ s₁, (hi : i < xs.length) → I i l₁ → St B s₁ (liter it r (i + 1) :: l₁) → wpAny (model prog w) A (assign (.Name x px) env (.int xs[i] t)) (fun _ s₂ => wpAny (model prog w) A (execs body env) (fun f s₃ => match f with
        | .next | .cont => ∃ l₂, I (i + 1) l₂ ∧ St B s₃ (liter it r (i + 1) :: l₂)
        | .brk => R (.ok .next) s₃
        | .ret v => R (.ok (.ret v)) s₃) (fun _ _ => False) s₂) (fun _ _ => False) s₁)
    (done : ∀ l₁ s₁, I xs.length l₁ → St B s₁ l₁ → R (.ok .next) s₁) : codeAny (model prog w) A (.forLoop (.Name x px) (.ref it) body [] env) R s := by
  refine codeAny_forLoop (fun n s' => ∃ i l₁, I i l₁ ∧ St B s' (liter it r i :: l₁) ∧ i ≤ xs.length ∧ n = xs.length - i) ?_ xs.length ⟨0, l, h0, H, Nat.zero_le _, rfl⟩
  rintro n s' ⟨i, l₁, hI, H', hi, rfl⟩
  obtain ⟨vs, hv, hls⟩ := ilst_is H' (.tail _ (hl i l₁ hI))
  obtain ⟨oi, hoi, hci, hdi⟩ := H'.head
  have hit : s'.heap.IsListIter it r i := ⟨oi, hoi, hci, hdi⟩
  by_cases hlt : i < xs.length
  · obtain ⟨t, ht⟩ := ints_at hv i hlt
    refine wpAny_pyNext_list_item hit hls (x := .int xs[i] t) (by simpa using ht) (fun h' hit' hs => ?_)
    have H2 : St B { s' with heap := h' } (liter it r (i + 1) :: l₁) := by
      obtain ⟨o', ho', hc', hd'⟩ := hit'
      exact H'.turn rfl rfl rfl (fun b o e n => (hs.2 b n).trans e) ⟨o', ho', hc', hd'⟩
    refine wpAny_mono (turn i t l₁ _ hlt hI H2) (fun _ s₂ h₂ => wpAny_mono h₂ (fun f s₃ h₃ => ?_) fun _ _ z => z.elim) fun _ _ z => z.elim
    cases f with
    | next => obtain ⟨l₂, a, b⟩ := h₃; exact ⟨_, by (first | lia | omega), i + 1, l₂, a, b, hlt, rfl⟩
    | cont => obtain ⟨l₂, a, b⟩ := h₃; exact ⟨_, by (first | lia | omega), i + 1, l₂, a, b, hlt, rfl⟩
    | brk => exact h₃
    | ret v => exact h₃
  · have hi' : i = xs.length := by (first | lia | omega)
    subst hi'
    refine wpAny_pyNext_list_end hh hit hls (by simp [ints_len hv]) (fun h' hx => ?_)
    refine wpAny_execs_nil (done l₁ _ hI (H'.drop rfl rfl rfl fun a o e n => hx a o (fun z => n (by show a ∈ [it]; rw [z]; exact List.mem_singleton.mpr rfl)) e))

set_option tactic.hygienic true in
theorem for_itup {x : Str} {px : Pos} {body : List Stmt} {env : Env} {R : Result → Shared → Prop} (I : Nat → List Reg → Prop) (hh : A.handled = none)
    (H : St B s (titer it r 0 :: l)) (h0 : I 0 l) (hl : ∀ i l, I i l → itup r xs ∈ l)
    (turn : ∀ i t l₁ s₁, (hi : i < xs.length) → I i l₁ → St B s₁ (titer it r (i + 1) :: l₁) → wpAny (model prog w) A (assign (.Name x px) env (.int xs[i] t)) (fun _ s₂ => wpAny (model prog w) A (execs body env) (fun f s₃ => match f with
        | .next | .cont => ∃ l₂, I (i + 1) l₂ ∧ St B s₃ (titer it r (i + 1) :: l₂)
        | .brk => R (.ok .next) s₃
        | .ret v => R (.ok (.ret v)) s₃) (fun _ _ => False) s₂) (fun _ _ => False) s₁)
    (done : ∀ l₁ s₁, I xs.length l₁ → St B s₁ l₁ → R (.ok .next) s₁) : codeAny (model prog w) A (.forLoop (.Name x px) (.ref it) body [] env) R s := by
  refine codeAny_forLoop (fun n s' => ∃ i l₁, I i l₁ ∧ St B s' (titer it r i :: l₁) ∧ i ≤ xs.length ∧ n = xs.length - i) ?_ xs.length ⟨0, l, h0, H, Nat.zero_le _, rfl⟩
  rintro n s' ⟨i, l₁, hI, H', hi, rfl⟩
  obtain ⟨vs, hv, hls⟩ := itup_is H' (.tail _ (hl i l₁ hI))
  obtain ⟨oi, hoi, hci, hdi⟩ := H'.head
  have hit : s'.heap.IsTupleIter it r i := ⟨oi, hoi, hci, hdi⟩
  by_cases hlt : i < xs.length
  · obtain ⟨t, ht⟩ := ints_at hv i hlt
    refine wpAny_pyNext_tuple_item hit hls (x := .int xs[i] t) (by simpa using ht) (fun h' hit' hs => ?_)
    have H2 : St B { s' with heap := h' } (titer it r (i + 1) :: l₁) := by
      obtain ⟨o', ho', hc', hd'⟩ := hit'
      exact H'.turn rfl rfl rfl (fun b o e n => (hs.2 b n).trans e) ⟨o', ho', hc', hd'⟩
    refine wpAny_mono (turn i t l₁ _ hlt hI H2) (fun _ s₂ h₂ => wpAny_mono h₂ (fun f s₃ h₃ => ?_) fun _ _ z => z.elim) fun _ _ z => z.elim
    cases f with
    | next => obtain ⟨l₂, a, b⟩ := h₃; exact ⟨_, by (first | lia | omega), i + 1, l₂, a, b, hlt, rfl⟩
    | cont => obtain ⟨l₂, a, b⟩ := h₃; exact ⟨_, by (first | lia | omega), i + 1, l₂, a, b, hlt, rfl⟩
    | brk => exact h₃
    | ret v => exact h₃
  · have hi' : i = xs.length := by (first | lia | omega)
    subst hi'
    refine wpAny_pyNext_tuple_end hh hit hls (by simp [ints_len hv]) (fun h' hx => ?_)
    refine wpAny_execs_nil (done l₁ _ hI (H'.drop rfl rfl rfl fun a o e n => hx a o (fun z => n (by show a ∈ [it]; rw [z]; exact List.mem_singleton.mpr rfl)) e))

theorem iter_ilst {Q : Value → Shared → Prop} (H : St B s l) (hm : ilst r xs ∈ l) (h : ∀ it s', St B s' (liter it r 0 :: l) → Q (.ref it) s') : wpAny (model prog w) A (pyIter (.ref r)) Q E s := by
  obtain ⟨vs, hv, hl⟩ := ilst_is H hm
  exact wpAny_pyIter_list hl (h _ _ (H.new1 rfl ⟨rfl, rfl⟩))
theorem iter_itup {Q : Value → Shared → Prop} (H : St B s l) (hm : itup r xs ∈ l) (h : ∀ it s', St B s' (titer it r 0 :: l) → Q (.ref it) s') : wpAny (model prog w) A (pyIter (.ref r)) Q E s := by
  obtain ⟨vs, hv, hl⟩ := itup_is H hm
  exact wpAny_pyIter_tuple hl (h _ _ (H.new1 rfl ⟨rfl, rfl⟩))
end
end
section
open PySem PySem.W PyProof.Rows PySem.Calls PySem.Spec

set_option tactic.hygienic true in
theorem dict_kinds {es : Array DictEntry} {n : Nat} {f : Nat → Value} (hs : es.size = n) (he : ∀ j < n, ∃ t, es[j]? = some ⟨hashInt j, .int j t, f j⟩) : IntKeys es ∧
    ∀ k : Int, findBy Value.isInt es k = if 0 ≤ k ∧ k < n then some (f k.toNat) else none := by
  constructor
  · intro e hm
    obtain ⟨j, hj, rfl⟩ := Array.mem_iff_getElem.mp hm
    obtain ⟨t, ht⟩ := he j (hs ▸ hj)
    rw [Array.getElem?_eq_getElem hj] at ht
    cases ht' : es[j] with
    | mk a b c => rw [ht'] at ht; cases ht; exact ⟨_, _, rfl, rfl⟩
  · intro k
    unfold findBy
    split
    · rename_i h
      obtain ⟨h0, h1⟩ := h
      have hk : k.toNat < es.size := by (first | lia | omega)
      obtain ⟨t, ht⟩ := he k.toNat (by (first | lia | omega))
      rw [Array.getElem?_eq_getElem hk] at ht
      have : es.find? (fun e => Value.isInt k e.key) = some es[k.toNat] := by
        rw [Array.find?_eq_some_iff_getElem]
        refine ⟨?_, k.toNat, hk, rfl, fun j hj => ?_⟩
        · rw [Option.some.inj ht]; simp [Value.isInt]; (first | lia | omega)
        · obtain ⟨u, hu⟩ := he j (by (first | lia | omega))
          rw [Array.getElem?_eq_getElem (by (first | lia | omega))] at hu
          rw [Option.some.inj hu]
          simp [Value.isInt]; (first | lia | omega)
      rw [this, Option.map_some, Option.some.inj ht]
    · rename_i h
      have : es.find? (fun e => Value.isInt k e.key) = none := by
        rw [Array.find?_eq_none]
        intro e hm
        obtain ⟨j, hj, rfl⟩ := Array.mem_iff_getElem.mp hm
        obtain ⟨u, hu⟩ := he j (by (first | lia | omega))
        rw [Array.getElem?_eq_getElem hj] at hu
        rw [Option.some.inj hu]
        simp [Value.isInt]; (first | lia | omega)
      rw [this]; rfl

section
variable {prog : Program} {w : World} {A : Around} {E : Value → Shared → Prop} {s : Shared} {B : Bs} {l l' : List Reg} {S : Lay} {n : Nat} {k : Int} {t : Nat}

theorem n2i_map (H : St B s l) (hm : n2i S n ∈ l) : s.heap.IntMap S.n (fun k => if 0 ≤ k ∧ k < n then some (.ref (S.i k.toNat)) else none) := by
  obtain ⟨o, ho, _, es, ep, rfl, hs, he⟩ := H.get hm
  obtain ⟨a, b⟩ := dict_kinds (f := fun j => .ref (S.i j)) hs he
  exact ⟨_, es, ep, ho, rfl, rfl, a, b⟩
theorem gi_n2i {Q : Value → Shared → Prop} (H : St B s l) (hm : n2i S n ∈ l) (h0 : 0 ≤ k) (h1 : k < n) (h : ∀ s', St B s' l → Q (.ref (S.i k.toNat)) s') :
    wpAny (model prog w) A (getItem (.ref S.n) (.int k t)) Q E s :=
  wpAny_getItem_intMap (n2i_map H hm) (by rw [if_pos ⟨h0, h1⟩]) (h _ (H.toks _))
theorem sub_n2i {value slice : Expr} {Q : Value → Shared → Prop} (H : St B s l) (hm : n2i S n ∈ l) (h0 : 0 ≤ k) (h1 : k < n) (h : ∀ s', St B s' l → Q (.ref (S.i k.toNat)) s')
    (hs : subscripted slice false (.ref S.n) (.int k t) = operate [.ref S.n, .int k t] (getItem (.ref S.n) (.int k t))) :
    wpAny (model prog w) A (subscriptTail value slice (.ref S.n) (.int k t)) Q E s :=
  tail_any (n2i_map H hm).typeIs F.slot_dict_getitem.lookup (gi_n2i H hm h0 h1 h) hs
end
end
section
open PySem PySem.W PyProof.Rows PySem.Calls PySem.Spec
section
variable {M : Model} {A : Around} {E : Value → Shared → Prop} {s : Shared} {env : Env} {pos : Pos} {f : Value} {first : List Value} {Q : Value → Shared → Prop} {B : Bs} {l : List Reg} {K : Frag} {kws : List (Option Str × Sem Value)}
theorem cw_mach0 (h : wpAny M A (call f (first ++ [])) Q E s) (hf : keeperOf f = pure .machine) (hk : kws = []) :
    wpAny M A (callWith pos f first (backTo pos (starEach [] env)) kws) Q E s := by
  subst hk
  exact callWith_of (P := fun _ => True) rfl (fun _ _ => ⟨.machine, .inr (.inl rfl), Looks.of_pure hf⟩) (evalArgs_nil3 ⟨trivial, h⟩)
theorem cw_mach {e : Expr} {rest : List Expr} (h : wpAny M A (spliced (backTo pos (starEach (e :: rest) env))) (fun vs s₁ => wpAny M A (call f (first ++ vs)) Q E s₁) E s)
    (hf : keeperOf f = pure .machine) (hk : kws = [])
    (he : starEach (e :: rest) env = (false, eval e env) :: starEach rest env) (hplain : (backTo pos (starEach rest env)).any (·.1) = false) :
    wpAny M A (callWith pos f first (backTo pos (starEach (e :: rest) env)) kws) Q E s := by
  subst hk
  rw [he] at h ⊢
  exact callWith_of (P := fun _ => True) (by show ((false || (backTo pos (starEach rest env)).any (·.1)) || false) = false; rw [hplain]; rfl) (fun _ _ => ⟨.machine, .inr (.inl rfl), Looks.of_pure hf⟩)
    (evalArgs_plain (wpAny_mono h (fun _ _ x => ⟨trivial, x⟩) fun _ _ x => x))
theorem cw_fn0 (H : St B s l) (G : Gd K B.g) (hf : keepIn K f = true) (h : wpAny M A (call f (first ++ [])) Q E s) (hk : kws = []) :
    wpAny M A (callWith pos f first (backTo pos (starEach [] env)) kws) Q E s := by
  subst hk
  exact callWith_of rfl (keeps_K hf) (evalArgs_nil3 ⟨H.kin G, h⟩)
theorem cw_fn {e : Expr} {rest : List Expr} (_G : Gd K B.g) (hf : keepIn K f = true) (h : wpAny M A (spliced (backTo pos (starEach (e :: rest) env))) (fun vs s₁ => K.In s₁.heap ∧ wpAny M A (call f (first ++ vs)) Q E s₁) E s)
    (hk : kws = [])
    (he : starEach (e :: rest) env = (false, eval e env) :: starEach rest env) (hplain : (backTo pos (starEach rest env)).any (·.1) = false) :
    wpAny M A (callWith pos f first (backTo pos (starEach (e :: rest) env)) kws) Q E s := by
  subst hk
  rw [he] at h ⊢
  exact callWith_of (by show ((false || (backTo pos (starEach rest env)).any (·.1)) || false) = false; rw [hplain]; rfl) (keeps_K hf) (evalArgs_plain h)
theorem b_split {c : Bool} {P Q : Prop} (h : c = true → P) (h' : c = false → Q) : if c = true then P else Q := by cases c; exact h' rfl; exact h rfl
end
section
variable {prog : Program} {w : World} {A : Around} {E : Value → Shared → Prop} {s : Shared} {B : Bs} {l : List Reg} {a b : Int} {t u : Nat} {Q : Value → Shared → Prop}
theorem ii_add (H : St B s l) (h : ∀ t s', St B s' l → Q (.int (a + b) t) s') : wpAny (model prog w) A (inplaceOp .Add (.int a t) (.int b u)) Q E s := PyProof.Rows.iadd_int (h _ _ (H.toks _))
theorem ii_sub (H : St B s l) (h : ∀ t s', St B s' l → Q (.int (a - b) t) s') : wpAny (model prog w) A (inplaceOp .Sub (.int a t) (.int b u)) Q E s := PyProof.Rows.isub_int (h _ _ (H.toks _))
theorem bi_add (H : St B s l) (h : ∀ t s', St B s' l → Q (.int (a + b) t) s') : wpAny (model prog w) A (binaryOp .Add (.int a t) (.int b u)) Q E s := PyProof.Rows.add_int (h _ _ (H.toks _))
theorem bi_sub (H : St B s l) (h : ∀ t s', St B s' l → Q (.int (a - b) t) s') : wpAny (model prog w) A (binaryOp .Sub (.int a t) (.int b u)) Q E s := PyProof.Rows.sub_int (h _ _ (H.toks _))
end
theorem frame_drop {L : Addr} {x : Str} {v : Value} {fs : List (Str × Value)} {h : Heap} (hx : fs.lookup x = none) (p : (frame L ((x, v) :: fs)).P h) : (frame L fs).P h := by
  obtain ⟨m, hn, q⟩ := p
  refine ⟨m, hn, fun y u hy => q y u ?_⟩
  rw [List.lookup_cons]
  by_cases e : y = x
  · subst e; rw [hx] at hy; cases hy
  · rw [beq_false_of_ne e]; exact hy
theorem St.forget {B : Bs} {s : Shared} {l l' : List Reg} {L : Addr} {x : Str} {v : Value} {fs : List (Str × Value)} (H : St B s l) (R : Rep (frame L ((x, v) :: fs)) (frame L fs) l l') (hx : fs.lookup x = none := by rfl) : St B s l' :=
  H.repWeak R (frame_drop hx) fun _ h => h
end
section
open PySem PySem.W PyProof.Rows PySem.Calls PySem.Spec

theorem sl_callV {prog : Program} {w : World} {A : Around} {s : Shared} {B : Bs} {l : List Reg} {K : Frag}
    {R : Result → Shared → Prop} {name qual : Str} {params : Arguments} {body : List Stmt} {scope : Scope} {dV kV doc pm cdv ct oc : Value} {an od : Option Addr} {osl : Array (Option Value)} {f : Addr} {args : Args} {front : List (Str × Value)} {nr : Str} {vs : List Value} {xs : List Int}
    (H : St B s l) (G : Gd K B.g)
    (ho : K.lookup f = some ⟨oc, od, .func (fnOf name qual params body scope dV kV doc pm an cdv ct), osl⟩) (hcd : codeIn K cdv qual = true) (hroom : A.depth < recursionLimit)
    (hbind : bindArgs (fnOf name qual params body scope dV kV doc pm an cdv ct) args = newTuple vs >>= fun v => pure (front ++ [(nr, v)])) (hv : IntsAre vs xs) (hz : xs.length ≤ 1000) (hloc : ∀ v, ∀ y ∈ front ++ [(nr, v)], scope.names.lookup y.1 = some .local)
    (h : ∀ t L s', St B s' (frame L ((nr, .ref t) :: front.reverse) :: itup t xs :: l) →
      wpAny (model prog w) (A.deeper (envOf qual scope L f cdv)) (execs body (envOf qual scope L f cdv))
        (fun fl s' => R (.ok (.ret (match fl with | .ret v => v | _ => .none))) s')
        (fun e s' => wpAny (model prog w) (A.deeper (envOf qual scope L f cdv)) (leaving (envOf qual scope L f cdv) e) (fun _ s'' => R (.error e) s'') (fun e' s'' => R (.error e') s'') s') s')
    (hco : scope.isCoroutine = false) (hgen : scope.isGenerator = false) (hk : scope.kind = .function)
    (hcell : ∀ x ∈ scope.names, x.2 ≠ .cell) : codeAny (model prog w) A (.call (.ref f) args) R s := by
  have X := H.kin G
  refine codeAny_call_function (fd := fnOf name qual params body scope dV kV doc pm an cdv ct) (body := body) hroom (X _ _ ho) rfl hco hgen rfl (codeRec_of X hcd) ?_
  rw [hbind]
  refine wpAny_bind (wpAny_newObj_type ?_ (by show vs.toArray.size ≤ sizeLine; rw [List.size_toArray, ints_len hv, sizeLine_eq]; (first | lia | omega)))
  have H1 : St B { s with heap := s.heap.push { cls := .type "tuple", data := .seq vs.toArray } } (itup s.heap.objs.size xs :: l) := H.new1 rfl ⟨vs, 0, rfl, hv⟩
  revert H1
  generalize s.heap.objs.size = t
  generalize ({ s with heap := s.heap.push { cls := .type "tuple", data := .seq vs.toArray } } : Shared) = s₁
  intro H1
  refine wpAny_pure (wpAny_newFunctionEnv hcell (hloc (.ref t)) (fun h₁ hns hsb => ⟨(G.lim.keeps H1.keep).fresh _ hsb, codeAny_func ?_⟩) hk)
  have hk₁ : ∀ b o, s₁.heap.get? b = some o → h₁.get? b = some o := fun b o e => hsb.extBut b o (Nat.ne_of_lt (Heap.lt_size e)) (Heap.get?_push_of_some _ e)
  refine h t s₁.heap.objs.size _ (H1.add rfl rfl rfl (fun a o e => hk₁ a o e) ⟨_, hns, fun x v e => ?_⟩ fun a ha => ?_)
  · rw [show (front ++ [(nr, Value.ref t)]).reverse = (nr, Value.ref t) :: front.reverse by simp]; exact e
  · rw [List.mem_singleton.mp ha]
    cases q : s₁.heap.get? s₁.heap.objs.size with
    | none => rfl
    | some o' => exact absurd (Heap.lt_size q) (Nat.lt_irrefl _)
theorem sl_callV0 {prog : Program} {w : World} {A : Around} {s : Shared} {B : Bs} {l : List Reg} {K : Frag}
    {R : Result → Shared → Prop} {name qual : Str} {params : Arguments} {body : List Stmt} {scope : Scope} {dV kV doc pm cdv ct oc : Value} {an od : Option Addr} {osl : Array (Option Value)} {f : Addr} {args : Args} {front fs : List (Str × Value)} {nr : Str} {vs : List Value} {xs : List Int}
    (H : St B s l) (G : Gd K B.g)
    (ho : K.lookup f = some ⟨oc, od, .func (fnOf name qual params body scope dV kV doc pm an cdv ct), osl⟩) (hcd : codeIn K cdv qual = true) (hroom : A.depth < recursionLimit)
    (hbind : bindArgs (fnOf name qual params body scope dV kV doc pm an cdv ct) args = newTuple vs >>= fun v => pure (front ++ [(nr, v)])) (hv : IntsAre vs xs) (hz : xs.length ≤ 1000) (hloc : ∀ v, ∀ y ∈ front ++ [(nr, v)], scope.names.lookup y.1 = some .local)
    (hfs : front.reverse = fs) (h : ∀ t L s', St B s' (frame L ((nr, .ref t) :: fs) :: itup t xs :: l) →
      wpAny (model prog w) (A.deeper (envOf qual scope L f cdv)) (execs body (envOf qual scope L f cdv))
        (fun fl s' => R (.ok (.ret (match fl with | .ret v => v | _ => .none))) s') (fun _ _ => False) s')
    (hco : scope.isCoroutine = false) (hgen : scope.isGenerator = false) (hk : scope.kind = .function)
    (hcell : ∀ x ∈ scope.names, x.2 ≠ .cell) : codeAny (model prog w) A (.call (.ref f) args) R s := by
  subst hfs
  exact sl_callV H G ho hcd hroom hbind hv hz hloc (fun t L s' H' => wpAny_mono (h t L s' H') (fun _ _ x => x) fun _ _ x => x.elim) hco hgen hk hcell

section
variable {prog : Program} {w : World} {A : Around} {E : Value → Shared → Prop} {s : Shared} {B : Bs} {l l' : List Reg} {S : Lay} {n : Nat} {k : Int} {t r : Nat} {xs : List Int}

theorem call_get_n2i {Q : Value → Shared → Prop} (H : St B s l) (hm : n2i S n ∈ l) (h0 : 0 ≤ k) (h1 : k < n) (h : ∀ s', St B s' l → Q (.ref (S.i k.toNat)) s') :
    wpAny (model prog w) A (call (.builtin "dict.get") [.ref S.n, .int k t]) Q E s := by
  obtain ⟨o, ho, hns, es, ep, rfl, hs, he⟩ := H.get hm
  have hM := n2i_map H hm
  refine call_meetsIn F.slot_dict_get ⟨_, ho, rfl⟩ F.entry_dict_get (F.args_dict_get_2 _ _) (meets_dict_get (intKind prog w) S.n (k := k) (by show Value.isInt k (.int k t) = true; simp [Value.isInt]) hns)
    ⟨_, hM.mapOf (fun o' ho' => by rw [ho] at ho'; cases ho'; exact ⟨rfl, rfl⟩), ?_⟩
  rw [if_pos ⟨h0, h1⟩]; exact h _ (H.toks _)
theorem gm_n2i {name : Str} {id : String} {pl : Sem Bool} {Q : Value × List Value → Shared → Prop} (H : St B s l) (hm : n2i S n ∈ l) (slot : Slot "dict" name id) (hty : typeOf (.builtin id) = pure (.type "method_descriptor")) (h : Q (.builtin id, [.ref S.n]) s) :
    wpAny (model prog w) A (getMethod (.ref S.n) name pl) Q E s := by
  obtain ⟨o, ho, _, es, ep, rfl, _⟩ := H.get hm
  exact getMethod_builtin ⟨_, ho, rfl⟩ F.plainAttrs_dict slot hty (fun a e => by cases e; exact ⟨_, ho, rfl⟩) h

theorem star_itup {Q : List Value → Shared → Prop} (H : St B s l) (hm : itup r xs ∈ l) (hz : xs.length ≤ 1000) (h : ∀ vs s', IntsAre vs xs → St B s' l → Q vs s') : StarOf (model prog w) A E (.ref r) Q s := by
  obtain ⟨o, ho, vs, n, rfl, hv⟩ := H.get hm
  have hT : s.TypeIs (.ref r) "tuple" := ⟨_, ho, rfl⟩
  have z : wpAny (model prog w) A (collect (.ref r)) Q E s :=
    wpAny_collect_seq r (.inr rfl) ho rfl rfl (fun h' hk => h vs _ hv (H.same rfl rfl rfl hk)) (by rw [List.size_toArray, ints_len hv, sizeLine_eq]; (first | lia | omega))
  unfold StarOf notIterableAtAll
  exact wpAny_bind (wpAny_specialOf hT F.slot_tuple_iter.lookup (wpAny_pure ⟨rfl, z⟩))
set_option tactic.hygienic true in
theorem for_ilstG {x : Str} {px : Pos} {body : List Stmt} {env : Env} {R : Result → Shared → Prop} {it : Addr} (I : Nat → List Reg → Prop) (hh : A.handled = none)
    (H : St B s (liter it r 0 :: l)) (h0 : I 0 l) (hl : ∀ i l₁ s₁, I i l₁ → St B s₁ (liter it r i :: l₁) → ∃ vs, IntsAre vs xs ∧ s₁.heap.IsList r vs.toArray)
    (turn : ∀ i t l₁ s₁, (hi : i < xs.length) → I i l₁ → St B s₁ (liter it r (i + 1) :: l₁) → wpAny (model prog w) A (assign (.Name x px) env (.int xs[i] t)) (fun _ s₂ => wpAny (model prog w) A (execs body env) (fun f s₃ => match f with
        | .next | .cont => ∃ l₂, I (i + 1) l₂ ∧ St B s₃ (liter it r (i + 1) :: l₂)
        | .brk => R (.ok .next) s₃
        | .ret v => R (.ok (.ret v)) s₃) (fun _ _ => False) s₂) (fun _ _ => False) s₁)
    (done : ∀ l₁ s₁, I xs.length l₁ → St B s₁ l₁ → R (.ok .next) s₁) : codeAny (model prog w) A (.forLoop (.Name x px) (.ref it) body [] env) R s := by
  refine codeAny_forLoop (fun n s' => ∃ i l₁, I i l₁ ∧ St B s' (liter it r i :: l₁) ∧ i ≤ xs.length ∧ n = xs.length - i) ?_ xs.length ⟨0, l, h0, H, Nat.zero_le _, rfl⟩
  rintro n s' ⟨i, l₁, hI, H', hi, rfl⟩
  obtain ⟨vs, hv, hls⟩ := hl i l₁ s' hI H'
  obtain ⟨oi, hoi, hci, hdi⟩ := H'.head
  have hit : s'.heap.IsListIter it r i := ⟨oi, hoi, hci, hdi⟩
  by_cases hlt : i < xs.length
  · obtain ⟨t, ht⟩ := ints_at hv i hlt
    refine wpAny_pyNext_list_item hit hls (x := .int xs[i] t) (by simpa using ht) (fun h' hit' hs => ?_)
    have H2 : St B { s' with heap := h' } (liter it r (i + 1) :: l₁) := by
      obtain ⟨o', ho', hc', hd'⟩ := hit'
      exact H'.turn rfl rfl rfl (fun b o e n => (hs.2 b n).trans e) ⟨o', ho', hc', hd'⟩
    refine wpAny_mono (turn i t l₁ _ hlt hI H2) (fun _ s₂ h₂ => wpAny_mono h₂ (fun f s₃ h₃ => ?_) fun _ _ z => z.elim) fun _ _ z => z.elim
    cases f with
    | next => obtain ⟨l₂, a, b⟩ := h₃; exact ⟨_, by (first | lia | omega), i + 1, l₂, a, b, hlt, rfl⟩
    | cont => obtain ⟨l₂, a, b⟩ := h₃; exact ⟨_, by (first | lia | omega), i + 1, l₂, a, b, hlt, rfl⟩
    | brk => exact h₃
    | ret v => exact h₃
  · have hi' : i = xs.length := by (first | lia | omega)
    subst hi'
    refine wpAny_pyNext_list_end hh hit hls (by simp [ints_len hv]) (fun h' hx => ?_)
    refine wpAny_execs_nil (done l₁ _ hI (H'.drop rfl rfl rfl fun a o e n => hx a o (fun z => n (by show a ∈ [it]; rw [z]; exact List.mem_singleton.mpr rfl)) e))
theorem sl_is {succ : Nat → List Int} {j : Nat} (H : St B s l) (hm : many n (sl S succ) ∈ l) (hj : j < n) : ∃ vs, IntsAre vs (succ j) ∧ s.heap.IsList (S.s j) vs.toArray := by
  obtain ⟨o, ho, vs, n, rfl, hv⟩ := many_get (H.get hm) hj
  exact ⟨vs, hv, _, ho, rfl, n, rfl⟩
theorem iter_sl {succ : Nat → List Int} {j : Nat} {Q : Value → Shared → Prop} (H : St B s l) (hm : many n (sl S succ) ∈ l) (hj : j < n) (h : ∀ it s', St B s' (liter it (S.s j) 0 :: l) → Q (.ref it) s') : wpAny (model prog w) A (pyIter (.ref (S.s j))) Q E s := by
  obtain ⟨vs, hv, hl⟩ := sl_is H hm hj
  exact wpAny_pyIter_list hl (h _ _ (H.new1 rfl ⟨rfl, rfl⟩))
end
noncomputable def set1 (np : Nat → Int) (k : Nat) (c : Int) : Nat → Int := fun j => if j = k then c else np j
theorem set1_self (np : Nat → Int) (k : Nat) (c : Int) : set1 np k c k = c := by simp [set1]
theorem set1_ne {np : Nat → Int} {k j : Nat} {c : Int} (h : j ≠ k) : set1 np k c j = np j := by simp [set1, h]
noncomputable abbrev Kahn := (Nat → Int) × List Int
noncomputable def low (st : Kahn) (x : Int) : Kahn := (set1 st.1 x.toNat (st.1 x.toNat - 1), if st.1 x.toNat - 1 = 0 then st.2 ++ [x] else st.2)
noncomputable def doneOne (succ : Nat → List Int) (st : Kahn) (v : Int) : Kahn := (succ v.toNat).foldl low (set1 st.1 v.toNat (-2), st.2)
theorem low_len (st : Kahn) (x : Int) : (low st x).2.length ≤ st.2.length + 1 := by
  unfold low; dsimp only; split <;> simp
theorem lows_len (xs : List Int) : ∀ st : Kahn, (xs.foldl low st).2.length ≤ st.2.length + xs.length := by
  induction xs with
  | nil => intro st; simp
  | cons x xs ih => intro st; have h1 := ih (low st x); have h2 := low_len st x; simp only [List.foldl_cons, List.length_cons]; (first | lia | omega)
theorem doneOne_len {succ : Nat → List Int} (hs : ∀ k, (succ k).length ≤ 10) (st : Kahn) (v : Int) : (doneOne succ st v).2.length ≤ st.2.length + 10 := by
  have h1 := lows_len (succ v.toNat) (set1 st.1 v.toNat (-2), st.2)
  have h2 := hs v.toNat
  unfold doneOne; dsimp only at h1; (first | lia | omega)
theorem dones_len {succ : Nat → List Int} (hs : ∀ k, (succ k).length ≤ 10) (xs : List Int) : ∀ st : Kahn, (xs.foldl (doneOne succ) st).2.length ≤ st.2.length + 10 * xs.length := by
  induction xs with
  | nil => intro st; simp
  | cons x xs ih => intro st; have h1 := ih (doneOne succ st x); have h2 := doneOne_len hs st x; simp only [List.foldl_cons, List.length_cons]; (first | lia | omega)
theorem foldl_take_succ {α β : Type} (f : β → α → β) (b : β) (xs : List α) (i : Nat) (hi : i < xs.length) : (xs.take (i + 1)).foldl f b = f ((xs.take i).foldl f b) xs[i] := by
  rw [List.take_succ_eq_append_getElem hi, List.foldl_append]; rfl
end
section
open PySem PySem.W PyProof.Rows PySem.Calls PySem.Spec
noncomputable def Framed (fs : List (Str × Value)) : List (Str × Value) → Prop
  | [] => True
  | y :: r => fs.lookup y.1 = some y.2 ∧ Framed fs r
theorem Framed.lookup {fs : List (Str × Value)} : ∀ {fs' : List (Str × Value)}, Framed fs fs' → ∀ x v, fs'.lookup x = some v → fs.lookup x = some v
  | [], _, x, v, h => by cases h
  | (y, u) :: r, ⟨h1, h2⟩, x, v, h => by
    rw [List.lookup_cons] at h
    by_cases e : x = y
    · subst e; simp only [BEq.rfl] at h; cases h; exact h1
    · rw [beq_false_of_ne e] at h; exact h2.lookup x v h
theorem St.reframe {B : Bs} {s : Shared} {l l' : List Reg} {L : Addr} {fs fs' : List (Str × Value)} (H : St B s l) (R : Rep (frame L fs) (frame L fs') l l') (h : Framed fs fs') : St B s l' :=
  H.repWeak R (fun ⟨m, hn, q⟩ => ⟨m, hn, fun x v e => q x v (h.lookup x v e)⟩) fun _ h => h
inductive Out (r : Reg) : List Reg → List Reg → Prop
  | here {l : List Reg} : Out r (r :: l) l
  | there {x : Reg} {l l' : List Reg} : Out r l l' → Out r (x :: l) (x :: l')
theorem Out.perm {r : Reg} {l l' : List Reg} (h : Out r l l') : l.Perm (r :: l') := by
  induction h with
  | here => exact .refl _
  | there _ ih => exact (ih.cons _).trans (.swap ..)
noncomputable def outN : Nat → List Reg → Option (Reg × List Reg)
  | _, [] => none
  | 0, x :: l => some (x, l)
  | n + 1, x :: l => match outN n l with
    | some (y, l') => some (y, x :: l')
    | none => none
noncomputable def permP : List Nat → List Reg → List Reg
  | [], l => l
  | p :: ps, l => match outN p l with
    | some (y, l') => y :: permP ps l'
    | none => l
set_option tactic.hygienic true in
theorem outN_perm : ∀ (n : Nat) (l : List Reg) (y : Reg) (l' : List Reg), outN n l = some (y, l') → l.Perm (y :: l')
  | 0, [], y, l', h => nomatch h
  | _ + 1, [], y, l', h => nomatch h
  | 0, x :: l, y, l', h => by cases h; exact .refl _
  | n + 1, x :: l, y, l', h => by
    unfold outN at h
    split at h
    · rename_i e; cases h; exact ((outN_perm n l _ _ e).cons x).trans (.swap ..)
    · cases h
set_option tactic.hygienic true in
theorem permP_perm : ∀ (ps : List Nat) (l : List Reg), l.Perm (permP ps l)
  | [], _ => .refl _
  | p :: ps, l => by
    unfold permP
    split
    · rename_i e; exact (outN_perm p l _ _ e).trans ((permP_perm ps _).cons _)
    · exact .refl _
noncomputable def subP : List Bool → List Reg → List Reg
  | true :: bs, x :: l => x :: subP bs l
  | false :: bs, _ :: l => subP bs l
  | _, l => l
theorem subP_sub : ∀ (bs : List Bool) (l : List Reg), (subP bs l).Sublist l
  | true :: bs, x :: l => .cons_cons _ (subP_sub bs l)
  | false :: bs, x :: l => .cons _ (subP_sub bs l)
  | [], l => .refl _
  | true :: _, [] => .refl _
  | false :: _, [] => .refl _
theorem sub_of {l l' : List Reg} (bs : List Bool) (h : subP bs l = l') : l'.Sublist l := h ▸ subP_sub bs l
theorem Framed.of {fs : List (Str × Value)} : ∀ {fs' : List (Str × Value)}, fs'.map (fun y => fs.lookup y.1) = fs'.map (fun y => some y.2) → Framed fs fs'
  | [], _ => trivial
  | _ :: _, h => ⟨(List.cons.inj h).1, Framed.of (List.cons.inj h).2⟩
end
section
open PySem PySem.W PySem.W.X PyProof.Rows PySem.Calls PySem.Spec

noncomputable abbrev Flat (d u : Nat) : Around := { handled := none, depth := d, frames := none, guards := none, units := u }

theorem wp_flat {α : Type} {M : Model} {A : Around} {m : Sem α} {Q : α → Shared → Prop} {E : Value → Shared → Prop} {s : Shared} (hA : A.depth < 900) (hh : A.handled = none) (h : wpAny M (Flat 900 A.units) m Q E s) : wpAny M A m Q E s :=
  fun Γ p hΓ => h Γ p ⟨hΓ.1.trans hh, Nat.le_trans hΓ.2.1 (Nat.le_of_lt hA), nofun, nofun, hΓ.2.2.2.2⟩
section
variable {w : World} {A : Around} {s : Shared} {B : Bs} {l : List Reg} {Q : Value → Shared → Prop} {E : Value → Shared → Prop}
theorem St.memAdd {h' : Heap} {news : List (Addr × Obj)} {tk : Nat} {r' : Reg} (H : St B s l) (D : Mem s.heap h' [] news) (p : r'.P h') (f : ∀ a ∈ r'.fp, s.heap.get? a = none) : St B ⟨h', s.gens, s.drawn, tk, s.os⟩ (r' :: l) :=
  H.add rfl rfl rfl (fun b o e => D.keep b o e (by cases hasCls o <;> rfl)) p f
end
end
section
open PySem PySem.W PyProof.Rows PySem.Calls PySem.Spec

noncomputable def idict (prog : Program) (w : World) (d : Addr) (kvs : List (Int × Value)) : Reg := cell d (fun o => (d == sysModules) = false ∧ o.IsDictOf (intKind prog w) kvs)
noncomputable def kvsN (S : Lay) (n : Nat) : List (Int × Value) := (List.range n).map fun (j : Nat) => ((j : Int), Value.ref (S.i j))

theorem obj_exact {o : Obj} (h : o.ExactDict) : o = { cls := .type "dict", dict := none, data := o.data, slots := #[] } := by
  obtain ⟨a, b, c, d⟩ := o
  obtain ⟨h1, h2, h3⟩ := h
  dsimp only at h1 h2 h3
  subst h1 h2 h3; rfl
section
variable {prog : Program} {w : World} {S : Lay} {n : Nat}
theorem pairs_at {es : List DictEntry} {kvs : List (Int × Value)} (h : Pairs (intKind prog w) es kvs) (j : Nat) (k : Int) (v : Value) (e : kvs[j]? = some (k, v)) : ∃ t hs, es[j]? = some ⟨hs, .int k t, v⟩ := by
  induction h generalizing j with
  | nil => simp at e
  | @cons en kv es kvs h1 h2 _ ih =>
    cases j with
    | zero =>
      simp only [List.getElem?_cons_zero, Option.some.injEq] at e
      subst e
      obtain ⟨t, ht⟩ := Value.isInt_shape h1
      obtain ⟨a, b, c⟩ := en
      dsimp only at ht h2
      subst ht h2
      exact ⟨t, a, rfl⟩
    | succ j => rw [List.getElem?_cons_succ] at e ⊢; exact ih j e
theorem n2i_of {h : Heap} (x : (idict prog w S.n (kvsN S n)).P h) : (n2i S n).P h := by
  obtain ⟨o, ho, hs, es, ep, hx, hd, hk, hp, hn⟩ := x
  refine ⟨o, ho, hs, es, ep, by rw [← hd]; exact obj_exact hx, by rw [← Array.length_toList, hp.length]; simp [kvsN], fun j hj => ?_⟩
  obtain ⟨t, hsh, e⟩ := pairs_at hp j j (.ref (S.i j)) (by simp [kvsN, hj])
  rw [Array.getElem?_toList] at e
  obtain ⟨k, h1, h2⟩ := hk _ (Array.mem_of_getElem? e)
  obtain ⟨t', h3⟩ := Value.isInt_shape (k := k) (v := .int j t) h1
  cases h3
  have h2 : hsh = hashInt j := h2
  subst h2
  exact ⟨t, e⟩
theorem pairs_of : ∀ (es : List DictEntry) (kvs : List (Int × Value)), es.length = kvs.length → (∀ (j : Nat) k v, kvs[j]? = some (k, v) → ∃ t, es[j]? = some ⟨hashInt k, .int k t, v⟩) → Pairs (intKind prog w) es kvs
  | [], [], _, _ => .nil
  | [], _ :: _, h, _ => by simp at h
  | _ :: _, [], h, _ => by simp at h
  | e :: es, (k, v) :: kvs, h, H => by
    obtain ⟨t, ht⟩ := H 0 k v rfl
    simp only [List.getElem?_cons_zero, Option.some.injEq] at ht
    subst ht
    exact .cons (intKind_is prog w k t) rfl (pairs_of es kvs (by simpa using h) fun j k v e => H (j + 1) k v e)
theorem range_nodup (n : Nat) : ((kvsN S n).map (·.1)).Nodup := by
  unfold kvsN
  rw [List.map_map]
  refine List.Pairwise.map _ (R := fun a b => a ≠ b) (fun a b h => ?_) List.nodup_range
  dsimp only [Function.comp]; (first | lia | omega)
theorem n2i_to {h : Heap} (x : (n2i S n).P h) : (idict prog w S.n (kvsN S n)).P h := by
  obtain ⟨o, ho, hs, es, ep, rfl, hz, he⟩ := x
  refine ⟨_, ho, hs, es, ep, ⟨rfl, rfl, rfl⟩, rfl, fun e hm => ?_, pairs_of _ _ (by simp [kvsN, hz]) fun j k v e => ?_, range_nodup n⟩
  · obtain ⟨j, hj, rfl⟩ := Array.mem_iff_getElem.mp hm
    obtain ⟨t, ht⟩ := he j (by (first | lia | omega))
    rw [Array.getElem?_eq_getElem hj] at ht
    rw [Option.some.inj ht]
    exact ⟨j, intKind_is prog w j t, rfl⟩
  · have hj : j < n := by
      have := (List.getElem?_eq_some_iff.mp e).1
      simpa [kvsN] using this
    simp only [kvsN, List.getElem?_map, List.getElem?_range hj, Option.map_some, Option.some.injEq, Prod.mk.injEq] at e
    obtain ⟨rfl, rfl⟩ := e
    rw [Array.getElem?_toList]
    exact he j hj
end
section
variable {prog : Program} {w : World} {A : Around} {E : Value → Shared → Prop} {s : Shared} {B : Bs} {l l' : List Reg} {d : Addr} {kvs : List (Int × Value)} {k : Int} {t : Nat} {v : Value}

theorem si_idict {Q : Unit → Shared → Prop} (H : St B s l) (R : Rep (idict prog w d kvs) (idict prog w d (stored kvs k v)) l l') (hz : kvs.length ≤ 1000) (h : ∀ s', St B s' l' → Q () s') :
    wpAny (model prog w) A (setItem (.ref d) (.int k t) v) Q E s := by
  obtain ⟨o, ho, hd, hD⟩ := H.get R.mem
  refine wpAny_setItem_pairs (intKind_is prog w k t) (Heap.dictOf_iff.mpr ⟨o, ho, hD⟩) (fun h' hm hs => h _ ?_) (by rw [sizeLine_eq]; (first | lia | omega))
  obtain ⟨o', ho', hD'⟩ := Heap.dictOf_iff.mp hm
  exact H.same1 R hs ⟨o', ho', hd, hD'⟩ (s.toks + 1)
theorem gi_idict {Q : Value → Shared → Prop} (H : St B s l) (hm : idict prog w d kvs ∈ l) (hv : valueAt kvs k = some v) (h : ∀ s', St B s' l → Q v s') :
    wpAny (model prog w) A (getItem (.ref d) (.int k t)) Q E s := by
  obtain ⟨o, ho, hd, hD⟩ := H.get hm
  have hD : s.heap.DictOf (intKind prog w) d kvs := Heap.dictOf_iff.mpr ⟨o, ho, hD⟩
  exact wpAny_getItem_of (intKind_is prog w k t) hD.mapOf hv (h _ (H.toks _))
theorem sub_idict {value slice : Expr} {Q : Value → Shared → Prop} (H : St B s l) (hm : idict prog w d kvs ∈ l) (hv : valueAt kvs k = some v) (h : ∀ s', St B s' l → Q v s')
    (hs : subscripted slice false (.ref d) (.int k t) = operate [.ref d, .int k t] (getItem (.ref d) (.int k t))) :
    wpAny (model prog w) A (subscriptTail value slice (.ref d) (.int k t)) Q E s := by
  obtain ⟨o, ho, hd, es, ep, hx, _⟩ := H.get hm
  exact tail_any ⟨o, ho, hx.1⟩ F.slot_dict_getitem.lookup (gi_idict H hm hv h) hs
theorem in_idict {Q : Value → Shared → Prop} (H : St B s l) (hm : idict prog w d kvs ∈ l) (h : ∀ s', St B s' l → Q (.bool (valueAt kvs k).isSome) s') :
    wpAny (model prog w) A (compareOp .In (.int k t) (.ref d)) Q E s := by
  obtain ⟨o, ho, hd, hD⟩ := H.get hm
  have hD : s.heap.DictOf (intKind prog w) d kvs := Heap.dictOf_iff.mpr ⟨o, ho, hD⟩
  exact wpAny_in_of (intKind_is prog w k t) hd hD.mapOf (h _ (H.toks _))
theorem gm_idict {name : Str} {id : String} {pl : Sem Bool} {Q : Value × List Value → Shared → Prop} (H : St B s l) (hm : idict prog w d kvs ∈ l) (slot : Slot "dict" name id) (hty : typeOf (.builtin id) = pure (.type "method_descriptor")) (h : Q (.builtin id, [.ref d]) s) :
    wpAny (model prog w) A (getMethod (.ref d) name pl) Q E s := by
  obtain ⟨o, ho, hd, es, ep, hx, _⟩ := H.get hm
  exact getMethod_builtin ⟨_, ho, hx.1⟩ F.plainAttrs_dict slot hty (fun a e => by cases e; exact ⟨_, ho, hx.2.1⟩) h
theorem call_get_idict {Q : Value → Shared → Prop} (H : St B s l) (hm : idict prog w d kvs ∈ l) (h : ∀ s', St B s' l → Q ((valueAt kvs k).getD .none) s') :
    wpAny (model prog w) A (call (.builtin "dict.get") [.ref d, .int k t]) Q E s := by
  obtain ⟨o, ho, hd, hD⟩ := H.get hm
  have hM : s.heap.DictOf (intKind prog w) d kvs := Heap.dictOf_iff.mpr ⟨o, ho, hD⟩
  refine call_meetsIn F.slot_dict_get ⟨_, ho, hD.choose_spec.choose_spec.1.1⟩ F.entry_dict_get (F.args_dict_get_2 _ _) (meets_dict_get (intKind prog w) d (k := k) (intKind_is prog w k t) hd)
    ⟨_, hM.mapOf, ?_⟩
  exact h _ (H.toks _)
end
section
variable {B : Bs} {s : Shared} {l : List Reg} {n : Nat} {f f' : Nat → Reg}
theorem many_congr (h : ∀ j < n, f j = f' j) : many n f = many n f' := by
  unfold many
  congr 1
  refine List.map_congr_left fun j hj => h j (List.mem_range.mp hj)
theorem many_zero : many 0 f = star [] := rfl
theorem St.star0 (H : St B s l) : St B s (star [] :: l) := H.add rfl rfl rfl (fun _ _ h => h) ⟨(fun _ h => nomatch h), .nil⟩ (fun _ h => nomatch h)
theorem St.join (H : St B s (many n f :: f n :: l)) : St B s (many (n + 1) f :: l) := by
  have h1 := H.head
  have h2 := H.tail.head
  obtain ⟨q1, q2⟩ := List.pairwise_cons.mp H.sep
  obtain ⟨q3, q4⟩ := List.pairwise_cons.mp q2
  have hm : ∀ a, a ∈ (many (n + 1) f).fp ↔ a ∈ (many n f).fp ∨ a ∈ (f n).fp := by
    intro a
    simp only [many, star, List.range_succ, List.map_append, List.map_cons, List.map_nil, List.flatMap_append, List.mem_append, List.flatMap_cons, List.flatMap_nil, List.append_nil]
  refine ⟨H.ge, H.dr, H.os, H.keep, fun x hx => ?_, fun x hx a ha => ?_, List.pairwise_cons.mpr ⟨fun x hx a ha => ?_, q4⟩⟩
  · rcases List.mem_cons.mp hx with rfl | hx
    · refine ⟨fun r hr => ?_, ?_⟩
      · rw [List.range_succ, List.map_append] at hr
        rcases List.mem_append.mp hr with hr | hr
        · exact h1.1 r hr
        · simp only [List.map_cons, List.map_nil, List.mem_singleton] at hr; rw [hr]; exact h2
      · rw [List.range_succ, List.map_append, List.pairwise_append]
        refine ⟨h1.2, by simp, fun r hr r' hr' a ha => ?_⟩
        simp only [List.map_cons, List.map_nil, List.mem_singleton] at hr'
        rw [hr']
        exact q1 _ (.head _) a (List.mem_flatMap.mpr ⟨r, hr, ha⟩)
    · exact H.regs x (.tail _ (.tail _ hx))
  · rcases List.mem_cons.mp hx with rfl | hx
    · rcases (hm a).mp ha with h | h
      · exact H.off _ (.head _) a h
      · exact H.off _ (.tail _ (.head _)) a h
    · exact H.off x (.tail _ (.tail _ hx)) a ha
  · rcases (hm a).mp ha with h | h
    · exact q1 x (.tail _ hx) a h
    · exact q3 x hx a h
end
section
variable {M : Model} {A : Around} {E : Value → Shared → Prop} {s : Shared} {env : Env}
theorem assign_sub {o i : Expr} {pos : Pos} {v : Value} {Q : Unit → Shared → Prop}
    (h : wpAny M A (eval o env) (fun ov s₂ => wpAny M A (eval i env) (fun iv s₃ => wpAny M A (setItem ov iv v) Q E s₃) E s₂) E s) : wpAny M A (assign (.Subscript o i pos) env v) Q E s := fun Γ p hΓ => by
  simp only [assign_Subscript, Sem.wp_bind', Sem.wp_holding, Sem.wp_cmd_standAt, Sem.wp_release, Sem.wp_pure']
  exact Sem.wp_mono M Γ _ (fun ov p₂ s₂ h₂ => Sem.wp_mono M Γ _ (fun iv _ s₃ h₃ => h₃ Γ _ hΓ)
    (fun _ _ _ h' => h') _ _ (h₂ Γ p₂ hΓ)) (fun _ _ _ h' => h') _ _ (h Γ p hΓ)
end
section
variable {prog : Program} {w : World} {A : Around} {E : Value → Shared → Prop} {s : Shared} {B : Bs} {l l' : List Reg} {S : Lay} {n k : Nat} {succ succ' : Nat → List Int}
theorem gm_sl {name : Str} {id : String} {pl : Sem Bool} {Q : Value × List Value → Shared → Prop} (H : St B s l) (hm : many n (sl S succ) ∈ l) (hk : k < n) (slot : Slot "list" name id) (hty : typeOf (.builtin id) = pure (.type "method_descriptor")) (h : Q (.builtin id, [.ref (S.s k)]) s) :
    wpAny (model prog w) A (getMethod (.ref (S.s k)) name pl) Q E s := by
  obtain ⟨o, ho, vs, n, rfl, hv⟩ := many_get (H.get hm) hk
  exact getMethod_builtin ⟨_, ho, rfl⟩ F.plainAttrs_list slot hty (fun a e => by cases e; exact ⟨_, ho, rfl⟩) h
theorem append_sl {x : Int} {tk : Nat} {Q : Value → Shared → Prop} (H : St B s l) (R : Rep (many n (sl S succ)) (many n (sl S succ')) l l') (hk : k < n) (hz : (succ k).length ≤ 1000)
    (h1 : succ' k = succ k ++ [x]) (h2 : ∀ j, j ≠ k → succ' j = succ j) (h : ∀ s', St B s' l' → Q .none s') :
    wpAny (model prog w) A (call (.builtin "list.append") [.ref (S.s k), .int x tk]) Q E s := by
  obtain ⟨o, ho, vs, n, rfl, hv⟩ := many_get (H.get R.mem) hk
  refine wpAny_list_append_plain ⟨n, ho⟩ (fun h' hp hs => h _ ?_) (by rw [List.size_toArray, ints_len hv, sizeLine_eq]; (first | lia | omega))
  obtain ⟨n', ho'⟩ := hp
  refine H.repMany R hk (fun j hj => by unfold sl; rw [h2 j hj]) rfl rfl rfl (fun b o e z => (hs.2 b (fun q => z (by show b ∈ [S.s k]; rw [q]; exact .head _))).trans e) ⟨_, ho', vs ++ [.int x tk], n', ?_, ?_⟩ fun _ h => h
  · rw [List.push_toArray]
  · rw [h1]; exact ints_append hv (.cons x tk .nil)
end
end
section
open PySem PySem.W PyProof.Rows PySem.Calls PySem.Spec

noncomputable def cellr (c : Addr) (v : Option Value) : Reg := cell c (fun o => o.data = .cell v)
noncomputable def cellRegs (cs : List (Str × Addr)) (cm : Str → Option Value) : List Reg := cs.map fun x => cellr x.2 (cm x.1)

theorem St.addAll {B : Bs} {s s' : Shared} {l : List Reg} (ns : List Reg) (H : St B s l) (ge : s'.gens = s.gens) (dr : s'.drawn = s.drawn) (os : s'.os = s.os)
    (m : ∀ a o, s.heap.get? a = some o → s'.heap.get? a = some o) (p : ∀ r ∈ ns, r.P s'.heap) (f : ∀ r ∈ ns, ∀ a ∈ r.fp, s.heap.get? a = none) (sep : ns.Pairwise (fun (r r' : Reg) => ∀ a : Addr, a ∈ r.fp → a ∉ r'.fp)) : St B s' (ns ++ l) := by
  have H' := H.same ge dr os m
  refine ⟨H'.ge, H'.dr, H'.os, H'.keep, fun r hr => ?_, fun r hr a ha => ?_, List.pairwise_append.mpr ⟨sep, H'.sep, fun r hr r' hr' a ha ha' => ?_⟩⟩
  · rcases List.mem_append.mp hr with h | h
    · exact p r h
    · exact H'.regs r h
  · rcases List.mem_append.mp hr with h | h
    · cases q : B.g.get? a with
      | none => rfl
      | some o => have := H.keep a o q; rw [f r h a ha] at this; cases this
    · exact H'.off r h a ha
  · obtain ⟨o, ho⟩ := r'.alive _ (H.regs r' hr') a ha'
    rw [f r hr a ha] at ho; cases ho

noncomputable def Looked (all : List (Str × Addr)) : List (Str × Addr) → Prop
  | [] => True
  | x :: r => all.lookup x.1 = some x.2 ∧ Looked all r
theorem Looked.at {all : List (Str × Addr)} : ∀ {l : List (Str × Addr)}, Looked all l → ∀ x ∈ l, all.lookup x.1 = some x.2
  | [], _, x, h => nomatch h
  | y :: r, ⟨h1, h2⟩, x, h => by
    rcases List.mem_cons.mp h with rfl | h
    · exact h1
    · exact h2.at x h
theorem sl_callC {prog : Program} {w : World} {A : Around} {s : Shared} {B : Bs} {l : List Reg} {K : Frag}
    {R : Result → Shared → Prop} {name qual : Str} {params : Arguments} {body : List Stmt} {scope : Scope} {dV kV doc pm cdv ct oc : Value} {an od : Option Addr} {osl : Array (Option Value)} {f : Addr} {args : List Value} {binds : List (Str × Value)}
    (H : St B s l) (G : Gd K B.g)
    (ho : K.lookup f = some ⟨oc, od, .func (fnOf name qual params body scope dV kV doc pm an cdv ct), osl⟩) (hcd : codeIn K cdv qual = true) (hroom : A.depth < recursionLimit)
    (hbind : bindArgs (fnOf name qual params body scope dV kV doc pm an cdv ct) ⟨args, []⟩ = pure binds)
    (hkind : ∀ n, ∀ x ∈ binds, scope.names.lookup x.1 = some .local ∨ (scope.names.lookup x.1 = some .cell ∧ ((cellsFrom (n + 1) scope.names []).lookup x.1).isSome = true))
    (hl : ∀ L, Looked (cellsFrom (L + 1) scope.names []) (cellsFrom (L + 1) scope.names [])) {cs : Addr → List Reg} (hcs : ∀ L, cellRegs (cellsFrom (L + 1) scope.names []) (bindC (envOfC qual scope L f cdv).kindOf binds fun _ => none) = cs L)
    {fs : Addr → List (Str × Value)} (hfs : ∀ L x v, (fs L).lookup x = some v → bindL (envOfC qual scope L f cdv).kindOf binds (fun _ => none) x = some v)
    (h : ∀ L s', St B s' (frame L (fs L) :: (cs L ++ l)) →
      wpAny (model prog w) (A.deeper (envOfC qual scope L f cdv)) (execs body (envOfC qual scope L f cdv))
        (fun fl s' => R (.ok (.ret (match fl with | .ret v => v | _ => .none))) s') (fun _ _ => False) s')
    (hco : scope.isCoroutine = false) (hgen : scope.isGenerator = false) (hk : scope.kind = .function) : codeAny (model prog w) A (.call (.ref f) ⟨args, []⟩) R s := by
  have X := H.kin G
  refine codeAny_call_cells (fd := fnOf name qual params body scope dV kV doc pm an cdv ct) (body := body) (binds := binds) hroom (X _ _ ho) rfl (G.lim.keeps H.keep) (codeRec_of X hcd) rfl hbind rfl (hkind _) (fun s₁ I => ?_) hco hgen hk
  have I : InCallC s s.heap.objs.size (bindL (envOfC qual scope s.heap.objs.size f cdv).kindOf binds fun _ => none) (cellsFrom (s.heap.objs.size + 1) scope.names []) (bindC (envOfC qual scope s.heap.objs.size f cdv).kindOf binds fun _ => none) s₁ := I
  have z : ∀ a, s.heap.objs.size ≤ a → s.heap.get? a = none := fun a ha => by
    cases q : s.heap.get? a with
    | none => rfl
    | some o => exact absurd (Heap.lt_size q) (Nat.not_lt.mpr ha)
  obtain ⟨h₁, tk, rfl, hk₁⟩ := I.done
  refine wpAny_mono (h s.heap.objs.size _ ?_) (fun _ _ x => x) fun _ _ x => x.elim
  rw [← hcs]
  refine St.addAll (frame s.heap.objs.size (fs s.heap.objs.size) :: cellRegs (cellsFrom (s.heap.objs.size + 1) scope.names []) (bindC (envOfC qual scope s.heap.objs.size f cdv).kindOf binds fun _ => none)) H rfl rfl rfl hk₁ (fun r hr => ?_) (fun r hr a ha => ?_)
    (List.pairwise_cons.mpr ⟨fun r hr a ha ha' => ?_, ?_⟩)
  · rcases List.mem_cons.mp hr with rfl | hr
    · exact ⟨_, I.toInCall.ns, fun x v e => hfs _ x v e⟩
    · obtain ⟨⟨n, c⟩, hx, rfl⟩ := List.mem_map.mp hr
      exact I.cell n c ((hl _).at _ hx)
  · rcases List.mem_cons.mp hr with rfl | hr
    · rw [List.mem_singleton.mp ha]; exact z _ (Nat.le_refl _)
    · obtain ⟨⟨n, c⟩, hx, rfl⟩ := List.mem_map.mp hr
      rw [List.mem_singleton.mp ha]; exact z _ (Nat.le_of_lt (I.above n c hx))
  · obtain ⟨⟨n, c⟩, hx, rfl⟩ := List.mem_map.mp hr
    have e1 := List.mem_singleton.mp ha
    have e2 := List.mem_singleton.mp ha'
    exact absurd (e1.symm.trans e2) (Nat.ne_of_lt (I.above n c hx))
  · refine List.Pairwise.map _ (fun x y hxy a ha hb => ?_) I.apart
    exact hxy ((List.mem_singleton.mp ha).symm.trans (List.mem_singleton.mp hb))

section
variable {M : Model} {A : Around} {E : Value → Shared → Prop} {s : Shared} {B : Bs} {l l' : List Reg} {qual : Str} {scope : Scope} {L f c C : Addr} {cd : Value} {fs : List (Str × Value)} {x : Str} {v : Value} {K : Frag} {cl : List (Str × Addr)} {env : Env}
theorem nmC_l {pos : Pos} {Q : Value → Shared → Prop} (H : St B s l) (hm : frame L fs ∈ l) (hv : fs.lookup x = some v) (h : Q v s)
    (hk : scope.kind = .function) (hl : (envOfC qual scope L f cd).kindOf x = some .local) (hd : (x == ("__debug__" : Str)) = false) :
    wpAny M A (eval (.Name x pos) (envOfC qual scope L f cd)) Q E s := name_l (env := envOfC qual scope L f cd) H hm hv h hk hl hd
theorem nmC_g {pos : Pos} {Q : Value → Shared → Prop} (H : St B s l) (G : Gd K B.g) (e : nsIn K mainGlobals x = some (some v)) (h : Q v s)
    (hk : scope.kind = .function) (hl : (envOfC qual scope L f cd).kindOf x = some .globalImplicit) (hd : (x == ("__debug__" : Str)) = false) :
    wpAny M A (eval (.Name x pos) (envOfC qual scope L f cd)) Q E s := name_g (env := envOfC qual scope L f cd) H G e h hk hl rfl hd
theorem nmC_b {pos : Pos} {Q : Value → Shared → Prop} (H : St B s l) (G : Gd K B.g) (e : nsIn K mainGlobals x = some none) (hv : bootBuiltins x = some v) (h : Q v s)
    (hn : x ≠ "__name__") (hk : scope.kind = .function) (hl : (envOfC qual scope L f cd).kindOf x = some .globalImplicit)
    (hd : (x == ("__debug__" : Str)) = false) : wpAny M A (eval (.Name x pos) (envOfC qual scope L f cd)) Q E s := name_b (env := envOfC qual scope L f cd) H G e hv h hn hk hl rfl rfl hd
theorem nmC_c {pos : Pos} {Q : Value → Shared → Prop} (H : St B s l) (hc : (cellsFrom (L + 1) scope.names []).lookup x = some c) (hm : cellr c (some v) ∈ l) (h : Q v s)
    (hk : scope.kind = .function) (hl : (envOfC qual scope L f cd).kindOf x = some .cell) (hd : (x == ("__debug__" : Str)) = false) :
    wpAny M A (eval (.Name x pos) (envOfC qual scope L f cd)) Q E s :=
  wpAny_Name (wpAny_loadName_cell (env := envOfC qual scope L f cd) hk hl hc (H.get hm) h) hd
theorem stC_l {Q : Unit → Shared → Prop} (H : St B s l) (R : Rep (frame L fs) (frame L ((x, v) :: fs)) l l') (h : ∀ s', St B s' l' → Q () s')
    (hl : (envOfC qual scope L f cd).kindOf x = some .local) (hk : scope.kind = .function) :
    wpAny M A (storeName (envOfC qual scope L f cd) x v) Q E s := by
  obtain ⟨p, q, rfl, rfl⟩ := R.split
  exact store_l (env := envOfC qual scope L f cd) (H.perm List.perm_middle) (fun s' H' => h s' (H'.perm List.perm_middle.symm)) hl (by show (scope.kind == .class || (scope.kind == .module && L != mainGlobals)) = false; rw [hk]; rfl)
theorem store_c {env : Env} {v₀ : Option Value} {Q : Unit → Shared → Prop} (H : St B s l) (hc : env.cells.lookup x = some c) (R : Rep (cellr c v₀) (cellr c (some v)) l l') (h : ∀ s', St B s' l' → Q () s')
    (hk : env.scope.kind = .function) (hl : env.kindOf x = some .cell) : wpAny M A (storeName env x v) Q E s := by
  refine wpAny_storeName_cell hk hl hc (H.get R.mem) fun h' hv hs => h _ ?_
  obtain ⟨o, ho, hd⟩ := hv
  exact H.same1 R hs ⟨o, ho, hd⟩ s.toks
theorem stC_c {v₀ : Option Value} {Q : Unit → Shared → Prop} (H : St B s l) (hc : (cellsFrom (L + 1) scope.names []).lookup x = some c) (R : Rep (cellr c v₀) (cellr c (some v)) l l') (h : ∀ s', St B s' l' → Q () s')
    (hl : (envOfC qual scope L f cd).kindOf x = some .cell) (hk : scope.kind = .function) :
    wpAny M A (storeName (envOfC qual scope L f cd) x v) Q E s := store_c (env := envOfC qual scope L f cd) H hc R h hk hl

theorem nmK_l {pos : Pos} {Q : Value → Shared → Prop} (H : St B s l) (hm : frame C fs ∈ l) (hv : fs.lookup x = some v) (h : Q v s)
    (hk : (compEnvC scope cl C env).scope.kind = .function) (hl : (compEnvC scope cl C env).kindOf x = some .local) (hd : (x == ("__debug__" : Str)) = false) :
    wpAny M A (eval (.Name x pos) (compEnvC scope cl C env)) Q E s := name_l (env := compEnvC scope cl C env) H hm hv h hk hl hd
theorem nmK_g {pos : Pos} {Q : Value → Shared → Prop} (H : St B s l) (G : Gd K B.g) (e : nsIn K mainGlobals x = some (some v)) (h : Q v s)
    (hk : (compEnvC scope cl C env).scope.kind = .function) (hl : (compEnvC scope cl C env).kindOf x = some .globalImplicit) (hg : env.globals = mainGlobals) (hd : (x == ("__debug__" : Str)) = false) :
    wpAny M A (eval (.Name x pos) (compEnvC scope cl C env)) Q E s := name_g (env := compEnvC scope cl C env) H G e h hk hl hg hd
theorem nmK_c {pos : Pos} {Q : Value → Shared → Prop} (H : St B s l) (hc : cl.lookup x = some c) (hm : cellr c (some v) ∈ l) (h : Q v s)
    (hk : (compEnvC scope cl C env).scope.kind = .function) (hl : (compEnvC scope cl C env).kindOf x = some .cell) (hd : (x == ("__debug__" : Str)) = false) :
    wpAny M A (eval (.Name x pos) (compEnvC scope cl C env)) Q E s :=
  wpAny_Name (wpAny_loadName_cell (env := compEnvC scope cl C env) hk hl hc (H.get hm) h) hd
end
end
section
open PySem PySem.W PyProof.Rows PySem.Calls PySem.Spec

set_option tactic.hygienic true in
structure Itr (prog : Program) (w : World) (B : Bs) (A : Around) (it : Addr) (n : Nat) (itr : Nat → Reg) (P : Nat → Value → Prop) (D : List Reg → Prop) : Prop where
  next : ∀ i l s (Q : Option Value → Shared → Prop) (E : Value → Shared → Prop), i < n → D l → St B s (itr i :: l) → (∀ v s', P i v → St B s' (itr (i + 1) :: l) → Q (some v) s') → wpAny (model prog w) A (pyNext (.ref it)) Q E s
  fin : ∀ l s (Q : Option Value → Shared → Prop) (E : Value → Shared → Prop), D l → St B s (itr n :: l) → (∀ s', St B s' l → Q none s') → wpAny (model prog w) A (pyNext (.ref it)) Q E s
  self : ∀ i l s (Q : Value → Shared → Prop) (E : Value → Shared → Prop), St B s (itr i :: l) → Q (.ref it) s → wpAny (model prog w) A (pyIter (.ref it)) Q E s

section
variable {prog : Program} {w : World} {A : Around} {B : Bs} {s : Shared} {l : List Reg} {it n : Nat} {itr : Nat → Reg} {P : Nat → Value → Prop} {D : List Reg → Prop}

set_option tactic.hygienic true in
theorem for_itr {x : Str} {px : Pos} {body : List Stmt} {env : Env} {R : Result → Shared → Prop} (W : Itr prog w B A it n itr P D) (I : Nat → List Reg → Prop)
    (H : St B s (itr 0 :: l)) (h0 : I 0 l) (hl : ∀ i l₁ s₁, I i l₁ → St B s₁ (itr i :: l₁) → D l₁)
    (turn : ∀ i v l₁ s₁, i < n → P i v → I i l₁ → St B s₁ (itr (i + 1) :: l₁) → wpAny (model prog w) A (assign (.Name x px) env v) (fun _ s₂ => wpAny (model prog w) A (execs body env) (fun f s₃ => match f with
        | .next | .cont => ∃ l₂, I (i + 1) l₂ ∧ St B s₃ (itr (i + 1) :: l₂)
        | .brk => R (.ok .next) s₃
        | .ret v => R (.ok (.ret v)) s₃) (fun _ _ => False) s₂) (fun _ _ => False) s₁)
    (done : ∀ l₁ s₁, I n l₁ → St B s₁ l₁ → R (.ok .next) s₁) : codeAny (model prog w) A (.forLoop (.Name x px) (.ref it) body [] env) R s := by
  refine codeAny_forLoop (fun k s' => ∃ i l₁, I i l₁ ∧ St B s' (itr i :: l₁) ∧ i ≤ n ∧ k = n - i) ?_ n ⟨0, l, h0, H, Nat.zero_le _, rfl⟩
  rintro k s' ⟨i, l₁, hI, H', hi, rfl⟩
  by_cases hlt : i < n
  · refine W.next i l₁ s' _ _ hlt (hl i l₁ s' hI H') H' fun v s'' hv H2 => ?_
    refine wpAny_mono (turn i v l₁ _ hlt hv hI H2) (fun _ s₂ h₂ => wpAny_mono h₂ (fun f s₃ h₃ => ?_) fun _ _ z => z.elim) fun _ _ z => z.elim
    cases f with
    | next => obtain ⟨l₂, a, b⟩ := h₃; exact ⟨_, by (first | lia | omega), i + 1, l₂, a, b, hlt, rfl⟩
    | cont => obtain ⟨l₂, a, b⟩ := h₃; exact ⟨_, by (first | lia | omega), i + 1, l₂, a, b, hlt, rfl⟩
    | brk => exact h₃
    | ret v => exact h₃
  · have hi' : i = n := by (first | lia | omega)
    subst hi'
    exact W.fin l₁ s' _ _ (hl i l₁ s' hI H') H' fun s'' H2 => wpAny_execs_nil (done l₁ _ hI H2)

noncomputable abbrev testsOf (ifs : List Expr) (env : Env) : Sem Bool := forIn ifs true fun c r => if r = true then do let ok ← isTrue c env (eval c env); pure (ForInStep.yield ok) else pure (ForInStep.yield r)

theorem append_vlst {r : Addr} {vs : List Value} {v : Value} {l' : List Reg} {E : Value → Shared → Prop} {Q : Value → Shared → Prop} (H : St B s l) (R : Rep (vlst r vs) (vlst r (vs ++ [v])) l l') (hz : vs.length ≤ 1000) (h : ∀ s', St B s' l' → Q .none s') :
    wpAny (model prog w) A (call (.builtin "list.append") [.ref r, v]) Q E s := by
  obtain ⟨o, ho, n, rfl⟩ := H.get R.mem
  refine wpAny_list_append_plain ⟨n, ho⟩ (fun h' hp hs => h _ ?_) (by rw [List.size_toArray, sizeLine_eq]; (first | lia | omega))
  obtain ⟨n', ho'⟩ := hp
  exact H.same1 R hs ⟨_, ho', n', by rw [List.push_toArray]⟩ s.toks

set_option tactic.hygienic true in
theorem comp_loop {elt iter : Expr} {x : Str} {px : Pos} {ifs : List Expr} {scope : Scope} {pos : Pos} {C D₀ : Addr} {cenv : Env} {R : Result → Shared → Prop} (W : Itr prog w B A it n itr P D) (I : Nat → List Reg → List Value → Prop)
    (hC : cenv.locals = C) (hx : cenv.kindOf x = some .local) (hp : (cenv.scope.kind == .class || (cenv.scope.kind == .module && cenv.locals != cenv.globals)) = false)
    (H : St B s (itr 0 :: frame C [] :: vlst D₀ [] :: l)) (h0 : I 0 l []) (hl : ∀ i l₁ vs, I i l₁ vs → ∀ fs, D (frame C fs :: vlst D₀ vs :: l₁)) (hz : ∀ i l₁ vs, I i l₁ vs → vs.length ≤ 1000)
    (turn : ∀ i v l₁ vs s₁, i < n → P i v → I i l₁ vs → St B s₁ (frame C [(x, v)] :: vlst D₀ vs :: itr (i + 1) :: l₁) →
      wpAny (model prog w) A (testsOf ifs cenv) (fun ok s₃ => if ok = true then wpAny (model prog w) A (eval elt cenv) (fun y s₄ => ∃ l₂, I (i + 1) l₂ (vs ++ [y]) ∧ St B s₄ (frame C [(x, v)] :: vlst D₀ vs :: itr (i + 1) :: l₂)) (fun _ _ => False) s₃
        else ∃ l₂, I (i + 1) l₂ vs ∧ St B s₃ (frame C [(x, v)] :: vlst D₀ vs :: itr (i + 1) :: l₂)) (fun _ _ => False) s₁)
    (done : ∀ l₁ vs s₁, I n l₁ vs → St B s₁ (frame C [] :: vlst D₀ vs :: l₁) → R (.ok .next) s₁) :
    codeAny (model prog w) A (.compLoop (.ListComp elt [⟨.Name x px, iter, ifs, 0⟩] scope pos) 0 (.ref it) (.ref D₀) cenv) R s := by
  subst hC
  refine codeAny_compLoop_tests (fun k s' => ∃ i l₁ vs, I i l₁ vs ∧ St B s' (itr i :: frame cenv.locals [] :: vlst D₀ vs :: l₁) ∧ i ≤ n ∧ k = n - i) ?_ n ⟨0, l, [], h0, H, Nat.zero_le _, rfl⟩
  rintro k s' ⟨i, l₁, vs, hI, H', hi, rfl⟩
  by_cases hlt : i < n
  · refine W.next i _ s' _ _ hlt (hl i l₁ vs hI _) H' fun v s'' hv H2 => ?_
    have H3 : St B s'' (frame cenv.locals [] :: vlst D₀ vs :: itr (i + 1) :: l₁) := H2.perm ((List.Perm.swap ..).trans (.cons _ (.swap ..)))
    refine wpAny_assign_Name (store_l (env := cenv) H3 (fun s₂ H4 => ?_) hx hp)
    refine wpAny_mono (turn i v l₁ vs s₂ hlt hv hI H4) (fun ok s₃ h₃ => ?_) fun _ _ z => z.elim
    have back : ∀ {s₅ l₂ vs'}, I (i + 1) l₂ vs' → St B s₅ (frame cenv.locals [(x, v)] :: vlst D₀ vs' :: itr (i + 1) :: l₂) → ∃ m, m < n - i ∧ ∃ i l₁ vs, I i l₁ vs ∧ St B s₅ (itr i :: frame cenv.locals [] :: vlst D₀ vs :: l₁) ∧ i ≤ n ∧ m = n - i := by
      intro s₅ l₂ vs' hI' H5
      have H6 : St B s₅ (frame cenv.locals [] :: vlst D₀ vs' :: itr (i + 1) :: l₂) := H5.reframe .here trivial
      exact ⟨n - (i + 1), by (first | lia | omega), i + 1, l₂, vs', hI', H6.perm ((List.Perm.cons _ (.swap ..)).trans (.swap ..)), hlt, rfl⟩
    cases ok with
    | false =>
      rw [if_neg (by decide)] at h₃ ⊢
      obtain ⟨l₂, a, b⟩ := h₃
      exact back a b
    | true =>
      rw [if_pos rfl] at h₃ ⊢
      refine wpAny_mono h₃ (fun y s₄ h₄ => ?_) fun _ _ z => z.elim
      obtain ⟨l₂, a, b⟩ := h₄
      exact append_vlst b (.there .here) (hz _ _ _ hI) fun s₅ H5 => back a H5
  · have hi' : i = n := by (first | lia | omega)
    subst hi'
    exact W.fin _ s' _ _ (hl i l₁ vs hI _) H' fun s'' H2 => done l₁ vs _ hI H2

noncomputable def CompDone (prog : Program) (w : World) (A : Around) (E : Value → Shared → Prop) (use : Option (Value → Sem Unit)) (Q : Value → Shared → Prop) (env : Env) (elt : Expr) (g : Comprehension) (scope : Scope) (cl : List (Str × Addr)) (pos : Pos) (it : Value) (s₂ : Shared) : Prop :=
  wpAny (model prog w) A (newList []) (fun acc s₃ => wpAny (model prog w) A (newFunctionEnv scope env.globals cl [] env.qual none .none (some env)) (fun cenv s₄ =>
    codeAny (model prog w) A (.compStart (.ListComp elt [g] scope pos) 0 it acc { cenv with scope := relabel scope env }) (compPost (model prog w) A E use Q acc cenv.locals) s₄) E s₃) E s₂

theorem comp_eval {elt iter : Expr} {x : Str} {px : Pos} {ifs : List Expr} {scope : Scope} {cl : List (Str × Addr)} {pos : Pos} {env : Env} {Q : Value → Shared → Prop} {E : Value → Shared → Prop}
    (h : wpAny (model prog w) A (eval iter env) (fun xv s₁ => wpAny (model prog w) A (pyIter xv) (fun itv s₂ => CompDone prog w A E none Q env elt ⟨.Name x px, iter, ifs, 0⟩ scope cl pos itv s₂) E s₁) E s)
    (hclos : closureFor scope env = pure cl) (hkind : scope.kind = .function) (hnames : ∀ y ∈ scope.names, y.2 = .local → scope.names.lookup y.1 = some .local)
    (hs : ∀ x, foldedSetIterable iter env x = pure x) : wpAny (model prog w) A (eval (.ListComp elt [⟨.Name x px, iter, ifs, 0⟩] scope pos) env) Q E s := by
  rw [eval_ListComp]
  exact wpAny_comprehension_free (use := none) rfl hs hclos hkind hnames h

set_option tactic.hygienic true in
theorem comp_assign {elt iter : Expr} {x y : Str} {px py : Pos} {ifs : List Expr} {scope : Scope} {cl : List (Str × Addr)} {pos spos : Pos} {env : Env} {Q : Flow → Shared → Prop} {E : Value → Shared → Prop}
    (h : wpAny (model prog w) A (eval iter env) (fun xv s₁ => wpAny (model prog w) A (pyIter xv) (fun itv s₂ => CompDone prog w A E (some (assign (.Name y py) env)) (fun _ s' => Q .next s') env elt ⟨.Name x px, iter, ifs, 0⟩ scope cl pos itv s₂) E s₁) E s)
    (hsw : swapsWith (.ListComp elt [⟨.Name x px, iter, ifs, 0⟩] scope pos) (some (.Name y py)) spos.line env = pure true)
    (hclos : closureFor scope env = pure cl) (hkind : scope.kind = .function) (hnames : ∀ y ∈ scope.names, y.2 = .local → scope.names.lookup y.1 = some .local)
    (hs : ∀ x, foldedSetIterable iter env x = pure x) : wpAny (model prog w) A (exec (.Assign [.Name y py] (.ListComp elt [⟨.Name x px, iter, ifs, 0⟩] scope pos) spos) env) Q E s := by
  rw [exec_Assign_Name_used _ _ _ _ hsw]
  refine wpAny_bind (wpAny_standAt (wpAny_bind ?_))
  show wpAny _ A (do let _ ← comprehension (.ListComp elt [⟨.Name x px, iter, ifs, 0⟩] scope pos) scope env _ (newList []) false (eval iter env) (some (assign (.Name y py) env))) _ _ s
  exact wpAny_bind (wpAny_mono (wpAny_comprehension_free (use := some (assign (.Name y py) env)) (Q := fun _ s' => Q .next s') rfl hs hclos hkind hnames h) (fun _ s' hq => wpAny_pure (wpAny_pure hq)) fun _ _ e => e)

theorem comp_done {elt iter : Expr} {x : Str} {px : Pos} {ifs : List Expr} {scope : Scope} {cl : List (Str × Addr)} {pos : Pos} {env : Env} {use : Option (Value → Sem Unit)} {Q : Value → Shared → Prop} {E : Value → Shared → Prop}
    (W : Itr prog w B A it n itr P D) (I : Nat → List Reg → List Value → Prop) (H : St B s (itr 0 :: l))
    (h0 : I 0 l []) (hl : ∀ i l₁ vs, I i l₁ vs → ∀ C D₀ fs, D (frame C fs :: vlst D₀ vs :: l₁)) (hz : ∀ i l₁ vs, I i l₁ vs → vs.length ≤ 1000)
    (turn : ∀ C D₀ i v l₁ vs s₁, i < n → P i v → I i l₁ vs → St B s₁ (frame C [(x, v)] :: vlst D₀ vs :: itr (i + 1) :: l₁) →
      wpAny (model prog w) A (testsOf ifs (compEnvC scope cl C env)) (fun ok s₃ => if ok = true then wpAny (model prog w) A (eval elt (compEnvC scope cl C env)) (fun y s₄ => ∃ l₂, I (i + 1) l₂ (vs ++ [y]) ∧ St B s₄ (frame C [(x, v)] :: vlst D₀ vs :: itr (i + 1) :: l₂)) (fun _ _ => False) s₃
        else ∃ l₂, I (i + 1) l₂ vs ∧ St B s₃ (frame C [(x, v)] :: vlst D₀ vs :: itr (i + 1) :: l₂)) (fun _ _ => False) s₁)
    (done : match (generalizing := false) use with
      | none => ∀ D₀ l₁ vs s₁, I n l₁ vs → St B s₁ (vlst D₀ vs :: l₁) → Q (.ref D₀) s₁
      | some u => ∀ D₀ C l₁ vs s₁, I n l₁ vs → St B s₁ (vlst D₀ vs :: frame C [] :: l₁) → wpAny (model prog w) A (u (.ref D₀)) (fun _ s₂ => ∃ l₂, St B s₂ (frame C [] :: l₂) ∧ ∀ s₃, St B s₃ l₂ → Q .none s₃) E s₁)
    (hcell : ∀ y ∈ scope.names, y.2 ≠ .cell) (hkind : scope.kind = .function) (hx : scope.names.lookup x = some .local) :
    CompDone prog w A E use Q env elt ⟨.Name x px, iter, ifs, 0⟩ scope cl pos (.ref it) s := by
  unfold CompDone
  refine wpAny_newObj_type (wpAny_newFunctionEnv hcell (by intro y hy; simp at hy) (fun h₁ hns₁ hsb₁ => ?_) hkind)
  have H1 : St B { s with heap := s.heap.push { cls := .type "list", dict := none, data := .seq ([] : List Value).toArray } } (vlst s.heap.objs.size [] :: itr 0 :: l) := H.new1 rfl ⟨0, rfl⟩
  revert H1 hns₁ hsb₁
  generalize s.heap.objs.size = D₀
  generalize ({ s with heap := s.heap.push { cls := .type "list", dict := none, data := .seq ([] : List Value).toArray } } : Shared) = s₁
  intro hns₁ hsb₁ H1
  have hk₁ : ∀ b o, s₁.heap.get? b = some o → h₁.get? b = some o := fun b o e => hsb₁.extBut b o (Nat.ne_of_lt (Heap.lt_size e)) (Heap.get?_push_of_some _ e)
  have H2 : St B { s₁ with heap := h₁, toks := s₁.toks + ([] : List (Str × Value)).length } (frame s₁.heap.objs.size [] :: vlst D₀ [] :: itr 0 :: l) := by
    refine H1.add rfl rfl rfl (fun a o e => hk₁ a o e) ⟨_, hns₁, fun x v e => by cases e⟩ fun a ha => ?_
    rw [List.mem_singleton.mp ha]
    cases q : s₁.heap.get? s₁.heap.objs.size with
    | none => rfl
    | some o' => exact absurd (Heap.lt_size q) (Nat.lt_irrefl _)
  revert H2
  generalize ({ s₁ with heap := h₁, toks := s₁.toks + ([] : List (Str × Value)).length } : Shared) = s₂
  generalize hC : s₁.heap.objs.size = C
  intro H2
  have H3 : St B s₂ (itr 0 :: frame C [] :: vlst D₀ [] :: l) := H2.perm ((List.Perm.cons _ (.swap ..)).trans (.swap ..))
  have loop : codeAny (model prog w) A (.compLoop (.ListComp elt [⟨.Name x px, iter, ifs, 0⟩] scope pos) 0 (.ref it) (.ref D₀) (compEnvC scope cl C env)) (compPost (model prog w) A E use Q (.ref D₀) C) s₂ := by
    refine comp_loop (cenv := compEnvC scope cl C env) W I rfl (lookup_relabel_local hx) (by simp [compEnvC, relabel, hkind]) H3 h0 (fun i l₁ vs h fs => hl i l₁ vs h C D₀ fs) hz (turn C D₀) fun l₁ vs s₃ hI H4 => ?_
    cases use with
    | none =>
      obtain ⟨m, hm, _⟩ := H4.head
      refine ⟨m, hm, fun h' hs => done D₀ l₁ vs _ hI (H4.drop rfl rfl rfl fun a o e na => (hs.2 a fun z => na (by show a ∈ [C]; rw [z]; exact .head _)).trans e)⟩
    | some u =>
      refine wpAny_mono (done D₀ C l₁ vs s₃ hI (H4.perm (.swap ..))) (fun _ s₄ h₄ => ?_) fun _ _ z => z
      obtain ⟨l₂, H5, hq⟩ := h₄
      obtain ⟨m, hm, _⟩ := H5.head
      exact ⟨m, hm, fun h' hs => hq _ (H5.drop rfl rfl rfl fun a o e na => (hs.2 a fun z => na (by show a ∈ [C]; rw [z]; exact .head _)).trans e)⟩
  exact codeAny_compStart_list loop (W.self 0 _ _ _ _ H3 loop)
end
end
section
open PySem PySem.W PyProof.Rows PySem.Calls PySem.Spec
noncomputable def rng (r : Addr) (a b : Int) : Reg := cell r (fun o => ∃ t u v, o = ({ cls := .type "range", dict := none, data := .fields #[.int a t, .int b u, .int 1 v], slots := #[] } : Obj))
noncomputable def riter (it : Addr) (a : Int) (n i : Nat) : Reg := cell it (fun o => o = { cls := .type "range_iterator", dict := none, data := .fields #[rawInt (a + (i : Int)), rawInt ((n : Int) - (i : Int)), rawInt 1], slots := #[] })
section
variable {prog : Program} {w : World} {A : Around} {E : Value → Shared → Prop} {s : Shared} {B : Bs} {l l' : List Reg} {r it : Addr} {a b : Int} {t u n : Nat} {xs : List Int} {vs : List Value} {k : Int} {v : Value} {S : Lay} {succ : Nat → List Int} {j : Nat}
theorem call_rng1 {Q : Value → Shared → Prop} (H : St B s l) (h : ∀ r s', St B s' (rng r 0 b :: l) → Q (.ref r) s') : wpAny (model prog w) A (call (.type "range") [.int b t]) Q E s :=
  call_range_1 (h _ _ (H.push rfl ⟨_, _, _, rfl⟩ _))
theorem call_rng2 {Q : Value → Shared → Prop} (H : St B s l) (h : ∀ r s', St B s' (rng r a b :: l) → Q (.ref r) s') : wpAny (model prog w) A (call (.type "range") [.int a t, .int b u]) Q E s :=
  call_range_2 (h _ _ (H.push rfl ⟨_, _, _, rfl⟩ _))
theorem iter_rng {Q : Value → Shared → Prop} (H : St B s l) (hm : rng r a b ∈ l) (ha : -1000 ≤ a ∧ a ≤ 1000) (hb : -1000 ≤ b ∧ b ≤ 1000) (hn : b - a = n ∨ (b ≤ a ∧ n = 0)) (h : ∀ it s', St B s' (riter it a n 0 :: l) → Q (.ref it) s') :
    wpAny (model prog w) A (pyIter (.ref r)) Q E s := by
  obtain ⟨o, ho, t, u, v, rfl⟩ := H.get hm
  refine wpAny_pyIter_range ho (small_one (by (first | lia | omega)) (by (first | lia | omega)) (by (first | lia | omega)) (by (first | lia | omega))) (h _ _ (H.new1 rfl ?_))
  rw [rangeSize_one]
  have e : (if a < b then b - a else 0) = (n : Int) := by split <;> (first | lia | omega)
  rw [e]
  simp only [Int.add_zero, Int.natCast_zero, Int.sub_zero]
set_option tactic.hygienic true in
theorem itr_range (hh : A.handled = none) : Itr prog w B A it n (riter it a n) (fun i v => ∃ t, v = .int (a + i) t) (fun _ => True) where
  next i l s Q E hi _ H h := by
    obtain ⟨o, ho, rfl⟩ := H.head
    refine wpAny_pyNext_range_item ho (by (first | lia | omega)) fun h' hit hs => h _ _ ⟨_, rfl⟩ ?_
    have e1 : a + ((i + 1 : Nat) : Int) = a + i + 1 := by (first | lia | omega)
    have e2 : (n : Int) - ((i + 1 : Nat) : Int) = n - i - 1 := by (first | lia | omega)
    exact H.turn rfl rfl rfl (fun b o e nb => (hs.2 b nb).trans e) ⟨_, hit, by rw [e1, e2]⟩
  fin l s Q E _ H h := by
    obtain ⟨o, ho, rfl⟩ := H.head
    exact wpAny_pyNext_range_end hh ho (by (first | lia | omega)) fun h' hx => h _ (H.drop rfl rfl rfl fun b o e nb => hx b o (fun z => nb (by show b ∈ [it]; rw [z]; exact .head _)) e)
  self i l s Q E H h := by
    obtain ⟨o, ho, rfl⟩ := H.head
    exact wpAny_pyIter_rangeiter ho h
theorem vlst_is (H : St B s l) (hm : vlst r vs ∈ l) : s.heap.IsList r vs.toArray := by
  obtain ⟨o, ho, n, rfl⟩ := H.get hm
  exact ⟨_, ho, rfl, n, rfl⟩
set_option tactic.hygienic true in
theorem itr_sl (hh : A.handled = none) (hj : j < n) : Itr prog w B A it (succ j).length (liter it (S.s j)) (fun i v => ∃ t, (succ j)[i]?.map (Value.int · t) = some v) (fun l => many n (sl S succ) ∈ l) where
  next i l s Q E hi hD H h := by
    obtain ⟨vs, hv, hls⟩ := sl_is H (.tail _ hD) hj
    obtain ⟨oi, hoi, hci, hdi⟩ := H.head
    obtain ⟨t, ht⟩ := ints_at hv i hi
    refine wpAny_pyNext_list_item ⟨oi, hoi, hci, hdi⟩ hls (x := .int (succ j)[i] t) (by simpa using ht) fun h' hit' hs => h _ _ ⟨t, by simp [hi]⟩ ?_
    obtain ⟨o', ho', hc', hd'⟩ := hit'
    exact H.turn rfl rfl rfl (fun b o e n => (hs.2 b n).trans e) ⟨o', ho', hc', hd'⟩
  fin l s Q E hD H h := by
    obtain ⟨vs, hv, hls⟩ := sl_is H (.tail _ hD) hj
    obtain ⟨oi, hoi, hci, hdi⟩ := H.head
    exact wpAny_pyNext_list_end hh ⟨oi, hoi, hci, hdi⟩ hls (by simp [ints_len hv]) fun h' hx => h _ (H.drop rfl rfl rfl fun b o e nb => hx b o (fun z => nb (by show b ∈ [it]; rw [z]; exact .head _)) e)
  self i l s Q E H h := by
    obtain ⟨oi, hoi, hci, hdi⟩ := H.head
    exact wpAny_pyIter_listiter ⟨oi, hoi, hci, hdi⟩ h
theorem gi_vlst {Q : Value → Shared → Prop} (H : St B s l) (hm : vlst r vs ∈ l) (h0 : 0 ≤ k) (hk : k < 2 ^ 63) (hv : vs[k.toNat]? = some v) (h : ∀ s', St B s' l → Q v s') : wpAny (model prog w) A (getItem (.ref r) (.int k t)) Q E s :=
  wpAny_getItem_list (vlst_is H hm) h0 hk (by simpa using hv) (h _ (H.toks _))
theorem sub_vlst {value slice : Expr} {Q : Value → Shared → Prop} (H : St B s l) (hm : vlst r vs ∈ l) (h0 : 0 ≤ k) (hk : k < 2 ^ 63) (hv : vs[k.toNat]? = some v) (h : ∀ s', St B s' l → Q v s')
    (hs : subscripted slice false (.ref r) (.int k t) = operate [.ref r, .int k t] (getItem (.ref r) (.int k t))) :
    wpAny (model prog w) A (subscriptTail value slice (.ref r) (.int k t)) Q E s :=
  tail_any (vlst_is H hm).typeIs slot_list_getitem.lookup (gi_vlst H hm h0 hk hv h) hs
theorem gi_ilst {Q : Value → Shared → Prop} (H : St B s l) (hm : ilst r xs ∈ l) (h0 : 0 ≤ k) (hk : k < 2 ^ 63) (hv : k.toNat < xs.length) (h : ∀ t s', St B s' l → Q (.int xs[k.toNat] t) s') : wpAny (model prog w) A (getItem (.ref r) (.int k t)) Q E s := by
  obtain ⟨vs, hi, hl⟩ := ilst_is H hm
  obtain ⟨t', ht⟩ := ints_at hi _ hv
  exact wpAny_getItem_list hl h0 hk (by simpa using ht) (h t' _ (H.toks _))
theorem sub_ilst {value slice : Expr} {Q : Value → Shared → Prop} (H : St B s l) (hm : ilst r xs ∈ l) (h0 : 0 ≤ k) (hk : k < 2 ^ 63) (hv : k.toNat < xs.length) (h : ∀ t s', St B s' l → Q (.int xs[k.toNat] t) s')
    (hs : subscripted slice false (.ref r) (.int k t) = operate [.ref r, .int k t] (getItem (.ref r) (.int k t))) :
    wpAny (model prog w) A (subscriptTail value slice (.ref r) (.int k t)) Q E s := by
  obtain ⟨vs, hi, hl⟩ := ilst_is H hm
  exact tail_any hl.typeIs slot_list_getitem.lookup (gi_ilst H hm h0 hk hv h) hs
end
noncomputable def outer (T : Lay) : Reg := vlst T.a ((List.range 6).map fun k => Value.ref (T.s k))
section
variable {prog : Program} {w : World} {A : Around} {E : Value → Shared → Prop} {s : Shared} {B : Bs} {l l' : List Reg} {T : Lay} {k : Int} {t : Nat}
theorem sub_outer {value slice : Expr} {Q : Value → Shared → Prop} (H : St B s l) (hm : outer T ∈ l) (h0 : 0 ≤ k) (h6 : k < 6) (h : ∀ s', St B s' l → Q (.ref (T.s k.toNat)) s')
    (hs : subscripted slice false (.ref T.a) (.int k t) = operate [.ref T.a, .int k t] (getItem (.ref T.a) (.int k t))) :
    wpAny (model prog w) A (subscriptTail value slice (.ref T.a) (.int k t)) Q E s :=
  sub_vlst H hm h0 (by (first | lia | omega)) (by
      have q : k.toNat < 6 := by (first | lia | omega)
      simp [q]) h hs
end
end
section
open PySem PySem.W PyProof.Rows PySem.Calls PySem.Spec
theorem any_beq (xs : List Int) (k : Int) : xs.any (· == k) = decide (k ∈ xs) := by
  rw [Bool.eq_iff_iff, List.any_eq_true, decide_eq_true_iff]
  constructor
  · rintro ⟨x, hx, e⟩; rw [← beq_iff_eq.mp e]; exact hx
  · exact fun h => ⟨k, h, by simp⟩
section
variable {prog : Program} {w : World} {A : Around} {E : Value → Shared → Prop} {s : Shared} {B : Bs} {l l' : List Reg} {r r' : Addr} {xs ys : List Int} {k : Int} {t n j : Nat} {S : Lay} {succ : Nat → List Int}
theorem in_ilst {Q : Value → Shared → Prop} (H : St B s l) (hm : ilst r xs ∈ l) (h : ∀ s', St B s' l → Q (.bool (decide (k ∈ xs))) s') : wpAny (model prog w) A (compareOp .In (.int k t) (.ref r)) Q E s := by
  obtain ⟨vs, hv, hl⟩ := ilst_is H hm
  exact in_list_ints hl hv (by rw [any_beq]; exact h _ H)
theorem notin_sl {Q : Value → Shared → Prop} (H : St B s l) (hm : many n (sl S succ) ∈ l) (hj : j < n) (h : ∀ s', St B s' l → Q (.bool (!decide (k ∈ succ j))) s') : wpAny (model prog w) A (compareOp .NotIn (.int k t) (.ref (S.s j))) Q E s := by
  obtain ⟨vs, hv, hl⟩ := sl_is H hm hj
  exact notin_list_ints hl hv (by rw [any_beq]; exact h _ H)
theorem add_ilst {Q : Value → Shared → Prop} (H : St B s l) (hm : ilst r xs ∈ l) (hm' : ilst r' ys ∈ l) (hz : xs.length ≤ 1000) (hz' : ys.length ≤ 1000) (h : ∀ q s', St B s' (ilst q (xs ++ ys) :: l) → Q (.ref q) s') :
    wpAny (model prog w) A (binaryOp .Add (.ref r) (.ref r')) Q E s := by
  obtain ⟨o, ho, vs, n, rfl, hv⟩ := H.get hm
  obtain ⟨o', ho', vs', n', rfl, hv'⟩ := H.get hm'
  refine P.add_list ho ho' (h _ _ (H.new1 rfl ⟨vs ++ vs', 0, by simp [PySem.W.listOf], ints_append hv hv'⟩)) ?_
  rw [List.size_toArray, List.size_toArray, ints_len hv, ints_len hv', sizeLine_eq]; (first | lia | omega)
theorem newlist_ints {vs : List Value} {Q : Value → Shared → Prop} (H : St B s l) (hv : IntsAre vs xs) (hz : xs.length ≤ 1000) (h : ∀ q s', St B s' (ilst q xs :: l) → Q (.ref q) s') : wpAny (model prog w) A (newList vs) Q E s :=
  wpAny_newObj_type (h _ _ (H.new1 rfl ⟨vs, 0, rfl, hv⟩)) (by show vs.toArray.size ≤ sizeLine; rw [List.size_toArray, ints_len hv, sizeLine_eq]; (first | lia | omega))
theorem max_ilst {Q : Value → Shared → Prop} (hh : A.handled = none) (H : St B s l) (hm : ilst r xs ∈ l) (hne : 0 < xs.length) (h : ∀ M t s', St B s' l → M ∈ xs → (∀ a ∈ xs, a ≤ M) → Q (.int M t) s') : wpAny (model prog w) A (call (.builtin "max") [.ref r]) Q E s := by
  obtain ⟨vs, hi, hl⟩ := ilst_is H hm
  obtain ⟨ys, e⟩ := hi.allInts.items
  have hns : xs = ys.toList.map (·.1) := by rw [← hi.numsOf, ← nums_intItems, ← e]
  have hsz : 0 < ys.size := by
    have h3 := hne; rw [hns, List.length_map, Array.length_toList] at h3; exact h3
  rw [e] at hl
  refine max_intList hh hl hsz fun v h' tk hv hk => ?_
  obtain ⟨t, rfl⟩ := intItems_at hv
  obtain ⟨h1, h2⟩ := argBest_gt (numAt ys) (ys.size - 1)
  refine h _ t _ (H.same rfl rfl rfl hk) ?_ fun a ha => ?_
  · rw [hns, numAt_eq]; exact getD_mem (by rw [List.length_map, Array.length_toList]; (first | lia | omega))
  · rw [hns] at ha
    obtain ⟨j, hj, rfl⟩ := mem_getD ha
    rw [List.length_map, Array.length_toList] at hj
    rw [← numAt_eq]; exact h2 j (by (first | lia | omega))
theorem sorted_list {vs : List Value} {Q : Value → Shared → Prop} (H : St B s l) (hl : s.heap.IsList r vs.toArray) (hv : IntsAre vs xs) (hz : xs.length < 64) (h : ∀ q ys s', St B s' (ilst q ys :: l) → ys.Perm xs → ys.Pairwise (· ≤ ·) → Q (.ref q) s') : wpAny (model prog w) A (call (.builtin "sorted") [.ref r]) Q E s := by
  refine PyProof.Rows.sorted_ints hl hv (by rw [ints_len hv]; exact hz) fun out ns' a1 a2 a3 => h _ ns' _ ?_ a2 a3
  obtain ⟨e, he⟩ := sortedAll_at s.heap vs out
  refine H.add (r' := ilst (s.heap.objs.size + 1) ns') rfl rfl rfl (fun _ _ q => sortedAll_old q) ⟨_, he, out.toList, e, rfl, a1⟩ fun a ha => ?_
  rw [List.mem_singleton.mp ha]
  cases q : s.heap.get? (s.heap.objs.size + 1) with
  | none => rfl
  | some o => exact absurd (Nat.lt_of_succ_lt (Heap.lt_size q)) (Nat.lt_irrefl _)
theorem sorted_ilst {Q : Value → Shared → Prop} (H : St B s l) (hm : ilst r xs ∈ l) (hz : xs.length < 64) (h : ∀ q ys s', St B s' (ilst q ys :: l) → ys.Perm xs → ys.Pairwise (· ≤ ·) → Q (.ref q) s') : wpAny (model prog w) A (call (.builtin "sorted") [.ref r]) Q E s := by
  obtain ⟨vs, hv, hl⟩ := ilst_is H hm
  exact sorted_list H hl hv hz h
theorem vlst_ints {vs : List Value} (H : St B s (vlst r vs :: l)) (hv : IntsAre vs xs) : St B s (ilst r xs :: l) :=
  H.weak (fun ⟨o, ho, n, e⟩ => ⟨o, ho, vs, n, e, hv⟩) fun _ h => h
end
theorem nodup_len : ∀ (n : Nat) (xs : List Int), xs.Nodup → (∀ x ∈ xs, 0 ≤ x ∧ x < n) → xs.length ≤ n
  | 0, [], _, _ => Nat.le_refl _
  | 0, x :: _, _, h => by have := h x (.head _); (first | lia | omega)
  | n + 1, xs, nd, h => by
    have h1 := nodup_len n (xs.erase n) (nd.erase _) fun x hx => by
      have a := h x (List.mem_of_mem_erase hx)
      have b : x ≠ n := fun e => by subst e; exact nd.not_mem_erase hx
      (first | lia | omega)
    have h2 : xs.length ≤ (xs.erase (n : Int)).length + 1 := by
      rw [List.length_erase]; split <;> (first | lia | omega)
    (first | lia | omega)
end
section
open PySem PySem.W PyProof.Rows PySem.Calls PySem.Spec
noncomputable def iset (prog : Program) (w : World) (a : Addr) (S : Int → Bool) (n : Nat) : Reg := cell a (fun o => ∃ es ep t, o.ExactSet ∧ o.data = .set es ep t ∧ ElemsOf (intKind prog w) es.toList ∧ (∀ k, S k = true ↔ ∃ e ∈ es.toList, (intKind prog w).is k e.2 = true)
    ∧ es.size < scanBound ∧ t.fits es.size = true ∧ es.size = n)
theorem pop_arr (vs : List Value) (v : Value) : (vs ++ [v]).toArray.eraseIdxIfInBounds ((vs ++ [v]).toArray.size - 1) = vs.toArray := by
  unfold Array.eraseIdxIfInBounds
  rw [dif_pos (by simp)]
  apply Array.ext'
  simp [List.eraseIdx_append_of_length_le]
theorem last_at (vs : List Value) (v : Value) : (vs ++ [v]).toArray[((-1 : Int) + ((vs ++ [v]).toArray.size : Int)).toNat]? = some v := by
  have e : ((-1 : Int) + ((vs ++ [v]).toArray.size : Int)).toNat = vs.length := by simp; (first | lia | omega)
  rw [e]; simp
theorem ints_snoc : ∀ {vs : List Value} {xs : List Int} {x : Int}, IntsAre vs (xs ++ [x]) → ∃ vs' t, vs = vs' ++ [.int x t] ∧ IntsAre vs' xs
  | _, [], x, h => by
    cases h with
    | cons n t h' => cases h'; exact ⟨[], t, rfl, .nil⟩
  | _, y :: ys, x, h => by
    cases h with
    | cons n t h =>
      obtain ⟨vs', t', e, h'⟩ := ints_snoc (xs := ys) h
      exact ⟨.int _ t :: vs', t', by rw [e]; rfl, .cons _ t h'⟩
section
variable {prog : Program} {w : World} {A : Around} {E : Value → Shared → Prop} {s : Shared} {B : Bs} {l l' : List Reg} {a d r : Addr} {S S' : Int → Bool} {n n' t : Nat} {k : Int} {xs : List Int} {vs : List Value} {v : Value} {kvs : List (Int × Value)}
theorem iset_is (H : St B s l) (hm : iset prog w a S n ∈ l) : s.heap.SetOf (intKind prog w) a S n := by
  obtain ⟨o, ho, es, ep, t, r⟩ := H.get hm
  exact ⟨o, es, ep, t, ho, r⟩
theorem set0 {Q : Value → Shared → Prop} (H : St B s l) (h : ∀ a s', St B s' (iset prog w a (fun _ => false) 0 :: l) → Q (.ref a) s') : wpAny (model prog w) A (call (.type "set") []) Q E s := by
  refine call_set_0 fun led => h _ _ (H.new1 rfl ⟨#[], 0, _, ⟨rfl, rfl, rfl⟩, rfl, fun e he => ?_, fun k => ⟨fun q => (Bool.false_ne_true q).elim, fun ⟨e, he, _⟩ => ?_⟩, by decide, ?_, rfl⟩)
  · simp at he
  · simp at he
  · cases led <;> rfl
theorem in_iset {Q : Value → Shared → Prop} (H : St B s l) (hm : iset prog w a S n ∈ l) (h : ∀ s', St B s' l → Q (.bool (S k)) s') : wpAny (model prog w) A (compareOp .In (.int k t) (.ref a)) Q E s :=
  wpAny_inSet_of (intKind_is prog w k t) rfl (iset_is H hm) (h _ (H.toks _))
theorem gm_set_add {pl : Sem Bool} {Q : Value × List Value → Shared → Prop} (H : St B s l) (hm : iset prog w a S n ∈ l) (h : Q (.builtin "set.add", [.ref a]) s) :
    wpAny (model prog w) A (getMethod (.ref a) (Str.ofString "add") pl) Q E s := getMethod_set_add (iset_is H hm) h
theorem add_iset {Q : Value → Shared → Prop} (H : St B s l) (R : Rep (iset prog w a S n) (iset prog w a (fun k' => S k' || decide (k' = k)) (if S k then n else n + 1)) l l') (hn : n ≤ 50) (h : ∀ s', St B s' l' → Q .none s') :
    wpAny (model prog w) A (call (.builtin "set.add") [.ref a, .int k t]) Q E s := by
  refine call_set_add (intKind_is prog w k t) rfl (iset_is H R.mem) (by unfold scanBound; (first | lia | omega)) fun h' hs hS => h _ ?_
  obtain ⟨o, es, ep, t, ho, q⟩ := hS
  exact H.same1 R hs ⟨o, ho, es, ep, t, q⟩ (s.toks + 1)
theorem pop_at {Q : Value → Shared → Prop} {m : Nat} (ho : s.heap.get? r = some (PySem.W.listOf (vs ++ [v]).toArray m)) (hz : vs.length ≤ 1000) (h : ∀ h' m', h'.get? r = some (PySem.W.listOf vs.toArray m') → Heap.SameBut r s.heap h' → Q v { s with heap := h' }) :
    wpAny (model prog w) A (call (.builtin "list.pop") [.ref r]) Q E s := by
  refine call_meets F.slot_list_pop ⟨_, ho, rfl⟩ F.entry_list_pop (F.args_list_pop_1 _) (MeetsSeq.list_pop_last r (vs ++ [v]).toArray m v (by simp) (by rw [List.size_toArray, List.length_append, List.length_singleton, sizeLine_eq]; (first | lia | omega))) ⟨ho, h _ (if ((vs ++ [v]).toArray.eraseIdxIfInBounds ((vs ++ [v]).toArray.size - 1)).size == (vs ++ [v]).toArray.size then m else m + 1) ?_ (Heap.SameBut.update ..)⟩
  refine (Heap.get?_update_self _ ho rfl).trans ?_
  simp only [Obj.mapSeq, PySem.W.listOf]
  exact congrArg some (congrArg (fun x => ({ cls := Value.type "list", data := x } : Obj)) (congrArg (fun x => Data.seq x _) (pop_arr vs v)))
theorem pop_vlst {Q : Value → Shared → Prop} (H : St B s l) (R : Rep (vlst r (vs ++ [v])) (vlst r vs) l l') (hz : vs.length ≤ 1000) (h : ∀ s', St B s' l' → Q v s') :
    wpAny (model prog w) A (call (.builtin "list.pop") [.ref r]) Q E s := by
  obtain ⟨o, ho, n, rfl⟩ := H.get R.mem
  exact pop_at ho hz fun h' m' ho' hs => h _ (H.same1 R hs ⟨_, ho', m', rfl⟩ s.toks)
theorem pop_ilst {x : Int} {Q : Value → Shared → Prop} (H : St B s l) (R : Rep (ilst r (xs ++ [x])) (ilst r xs) l l') (hz : xs.length ≤ 1000) (h : ∀ t s', St B s' l' → Q (.int x t) s') :
    wpAny (model prog w) A (call (.builtin "list.pop") [.ref r]) Q E s := by
  obtain ⟨o, ho, vs, n, rfl, hv⟩ := H.get R.mem
  obtain ⟨vs', t, rfl, hv'⟩ := ints_snoc hv
  exact pop_at ho (by rw [hv'.length]; exact hz) fun h' m' ho' hs => h t _ (H.same1 R hs ⟨_, ho', vs', m', rfl, hv'⟩ s.toks)
theorem gm_vlst {name : Str} {id : String} {pl : Sem Bool} {Q : Value × List Value → Shared → Prop} (H : St B s l) (hm : vlst r vs ∈ l) (slot : Slot "list" name id) (hty : typeOf (.builtin id) = pure (.type "method_descriptor")) (h : Q (.builtin id, [.ref r]) s) :
    wpAny (model prog w) A (getMethod (.ref r) name pl) Q E s := by
  obtain ⟨o, ho, n, rfl⟩ := H.get hm
  exact getMethod_builtin ⟨_, ho, rfl⟩ F.plainAttrs_list slot hty (fun a e => by cases e; exact ⟨_, ho, rfl⟩) h
theorem last_vlst {value slice : Expr} {Q : Value → Shared → Prop} (H : St B s l) (hm : vlst r (vs ++ [v]) ∈ l) (h : ∀ s', St B s' l → Q v s')
    (hs : subscripted slice false (.ref r) (.int (-1) t) = operate [.ref r, .int (-1) t] (getItem (.ref r) (.int (-1) t))) :
    wpAny (model prog w) A (subscriptTail value slice (.ref r) (.int (-1) t)) Q E s :=
  tail_any (vlst_is H hm).typeIs slot_list_getitem.lookup (wpAny_getItem_list_neg (vlst_is H hm) (by decide) (by simp; (first | lia | omega)) (by decide) (last_at vs v) (h _ (H.toks _))) hs
theorem del_idict {Q : Unit → Shared → Prop} (H : St B s l) (R : Rep (idict prog w d kvs) (idict prog w d (without kvs k)) l l') (hl : (valueAt kvs k).isSome = true) (hz : kvs.length ≤ 1000) (h : ∀ s', St B s' l' → Q () s') : wpAny (model prog w) A (delItem (.ref d) (.int k t)) Q E s := by
  obtain ⟨o, ho, hlo, hD⟩ := H.get R.mem
  have hD : s.heap.DictOf (intKind prog w) d kvs := Heap.dictOf_iff.mpr ⟨o, ho, hD⟩
  unfold delItem
  try with_reducible refine wpAny_holding ?_
  refine wpAny_bind (wpAny_sequenceKey hD.typeIs (by decide) ?_)
  refine wpAny_bind (wpAny_callSpecial?_slot (name := Str.ofString "__delitem__") hD.typeIs PySem.F.slot_dict_delitem
    (call_meetsIn PySem.F.slot_dict_delitem hD.typeIs PySem.F.entry_dict_delitem (PySem.F.args_dict_delitem_2 _ _) (meets_dict_delitem_pairs (intKind prog w) d (intKind_is prog w k t)) ⟨kvs, hD, by rw [sizeLine_eq]; (first | lia | omega), hl, fun h' hmm hs => ?_⟩))
  obtain ⟨o', ho', hd'⟩ := Heap.dictOf_iff.mp hmm
  exact wpAny_pure (h _ (H.same1 R hs ⟨o', ho', hlo, hd'⟩ (s.toks + 1)))
theorem dict0 {env : Env} {M : Model} {pos : Pos} {Q : Value → Shared → Prop} (G : B.g.NoLimit) (H : St B s l) (h : ∀ d s', St B s' (idict prog w d [] :: l) → Q (.ref d) s') : wpAny M A (eval (.Dict [] [] pos) env) Q E s := by
  refine wpAny_Dict_empty (h _ _ (H.new1 rfl ⟨beq_false_of_ne (Nat.ne_of_gt (modules_low (G.keeps H.keep))), #[], 0, ⟨rfl, rfl, rfl⟩, rfl, fun e he => ?_, .nil, .nil⟩))
  simp at he
noncomputable def SliceFrom (prog : Program) (w : World) (Q : Value → Shared → Prop) (o vl : Value) (s : Shared) : Prop :=
  ∃ (B : Bs) (l : List Reg) (r : Addr) (xs : List Int) (k : Int) (t : Nat), o = .ref r ∧ vl = .int k t ∧ 0 ≤ k ∧ St B s l ∧ ilst r xs ∈ l ∧ xs.length ≤ 1000 ∧ ∀ q s', St B s' (ilst q (xs.drop k.toNat) :: l) → Q (.ref q) s'
theorem slice_from {env : Env} {value lo : Expr} {p pos : Pos} {Q : Value → Shared → Prop}
    (h : wpAny (model prog w) A (eval value env) (fun o s₁ => wpAny (model prog w) A (eval lo env) (fun vl s₂ => SliceFrom prog w Q o vl s₂) E s₁) E s) (ht : ∀ o r, letTemporaryGo value o r = pure ()) :
    wpAny (model prog w) A (eval (.Subscript value (.Slice (some lo) none none p) pos) env) Q E s := by
  refine wpAny_Subscript_list_slice (wpAny_mono h (fun o s₁ h₁ => wpAny_mono (show wpAny _ _ (evalPart (some lo) env) _ _ _ from h₁) (fun vl s₂ h₂ => wpAny_evalPart_none ?_) fun _ _ e => e) fun _ _ e => e) ht
  obtain ⟨B, l, r, xs, k, t, rfl, rfl, h0, H, hm, hz, hq⟩ := h₂
  obtain ⟨vs, hv, hl⟩ := ilst_is H hm
  refine ⟨r, vs.toArray, some k, none, rfl, hl, by rw [List.size_toArray, hv.length, sizeLine_eq]; (first | lia | omega), .int k t, .none, hq _ _ ?_⟩
  have e : s₂.heap.objs.size + 1 = (s₂.heap.push { cls := .type "slice", data := .fields #[.int k t, .none, .none] }).objs.size := by rw [Heap.size_push]
  rw [e]
  have H1 : St B { s₂ with heap := s₂.heap.push { cls := .type "slice", data := .fields #[.int k t, .none, .none] } } l := H.same rfl rfl rfl fun _ _ q => Heap.get?_push_of_some _ q
  exact H1.new1 (o := { cls := .type "list", data := .seq (slicePick vs.toArray (some k) none none) }) (p := fun o => ∃ vs n, o = PySem.W.listOf vs.toArray n ∧ IntsAre vs (xs.drop k.toNat)) rfl ⟨(slicePick vs.toArray (some k) none none).toList, 0, by simp [PySem.W.listOf], slice_ints_fromW hv h0⟩
end
end
section
open PySem PySem.W PySem.W.X PyProof.Rows PySem.Calls PySem.Spec
theorem li_getattribute : typeLookup (.type "list_iterator") "__getattribute__" = pure (some (.builtin "object.__getattribute__")) := by rw [typeLookup_type, builtinLookup_eq_fast]; kernel_rfl
theorem slot_li_ga : Slot "list_iterator" "__getattribute__" "object.__getattribute__" :=
  .of (owner := "object") (n := "__getattribute__") li_getattribute (by decide +kernel) (by decide +kernel) (by decide +kernel)
    (by first | exact .inl (by decide +kernel) | exact .inr (by decide +kernel)) (by rw [isSubtype_type]; kernel_rfl)
set_option tactic.hygienic true in
theorem li_next : typeLookup (.type "list_iterator") "__next__" = pure (some (.builtin "list_iterator.__next__")) := by rw [typeLookup_type, builtinLookup_eq_fast]; kernel_rfl
theorem li_next_type : typeOf (.builtin "list_iterator.__next__") = pure (.type "wrapper_descriptor") := by kernel_rfl
theorem wd_set : typeLookup (.type "wrapper_descriptor") "__set__" = pure none := by rw [typeLookup_type, builtinLookup_eq_fast]; kernel_rfl
theorem wd_delete : typeLookup (.type "wrapper_descriptor") "__delete__" = pure none := by rw [typeLookup_type, builtinLookup_eq_fast]; kernel_rfl
theorem slot_wd_get : Slot "wrapper_descriptor" "__get__" "wrapper_descriptor.__get__" :=
  .of (owner := "wrapper_descriptor") (n := "__get__") (by rw [typeLookup_type, builtinLookup_eq_fast]; kernel_rfl) (by decide +kernel) (by decide +kernel) (by decide +kernel)
    (by first | exact .inl (by decide +kernel) | exact .inr (by decide +kernel)) (by rw [isSubtype_type]; kernel_rfl)
theorem entry_wd_get : entryFor table "wrapper_descriptor.__get__" = some Builtin.«wrapper_descriptor.__get__» := entryFor_of_tree (by kernel_rfl)
theorem args_wd_get (a b c : Value) : argsOk "wrapper_descriptor.__get__" ⟨[a, b, c], []⟩ := by
  unfold argsOk; kernel_rfl
theorem li_sub : isSubtype (.type "list_iterator") (.type (".".intercalate ("list_iterator.__next__".cutAt '.').dropLast)) = pure true := by
  rw [show ".".intercalate ("list_iterator.__next__".cutAt '.').dropLast = "list_iterator" by decide +kernel, isSubtype_type]; kernel_rfl
section
variable {prog : Program} {w : World} {A : Around} {E : Value → Shared → Prop} {s : Shared} {it r : Addr}
theorem wd_got {R : Result → Shared → Prop} {o : Obj} (ho : s.heap.get? it = some o) (hc : o.cls = .type "list_iterator")
    (hq : R (.ok (.ret (.ref s.heap.objs.size))) { s with heap := s.heap.push { cls := .type "method-wrapper", dict := none, data := .fields #[.builtin "list_iterator.__next__", .ref it], slots := #[] } }) :
    codeAny (model prog w) A (.call (.builtin "wrapper_descriptor.__get__") ⟨[.builtin "list_iterator.__next__", .ref it, .type "list_iterator"], []⟩) R s := by
  have hT : s.TypeIs (.ref it) "list_iterator" := ⟨_, ho, hc⟩
  have hT5 : s.TypeIs (.builtin "list_iterator.__next__") "wrapper_descriptor" := li_next_type
  have f8 := li_sub
  refine codeAny_call_builtin slot_wd_get.plain entry_wd_get (slot_wd_get.check _ _ _ _ _ _ _ _ hT5 (args_wd_get _ _ _) ?_)
  repeat (any_goals (first | assumption | wp_step))
theorem li_next_entry {tk : Tok} {Q : Fin → Shared → Prop} {vs : Array Value} (ho : s.heap.get? it = some { cls := .type "list_iterator", dict := none, data := .fields vs, slots := #[] })
    (hq : Q (.done (.ret (.ref s.heap.objs.size))) { s with heap := s.heap.push { cls := .type "method-wrapper", dict := none, data := .fields #[.builtin "list_iterator.__next__", .ref it], slots := #[] } }) :
    wpAny (model prog w) A (Builtin.«object.__getattribute__» ⟨[.ref it, .str (Str.ofString "__next__") tk], []⟩) Q E s := by
  have hT : s.TypeIs (.ref it) "list_iterator" := ⟨_, ho, rfl⟩
  have hT5 : s.TypeIs (.builtin "list_iterator.__next__") "wrapper_descriptor" := li_next_type
  have f4 := li_next
  have f5 := li_next_type
  have f6 := slot_wd_get.lookup
  have f7 := wd_set
  have f8 := wd_delete
  repeat (any_goals (first | assumption | wp_step))
  refine wd_got ho rfl ?_
  repeat (any_goals (first | assumption | wp_step))
end
theorem li_bind (self : Value) : bindSpecial (.builtin "object.__getattribute__") self = pure (.builtin "object.__getattribute__", [self]) := by
  unfold bindSpecial
  rw [show typeOf (.builtin "object.__getattribute__") = pure (.type "wrapper_descriptor") by kernel_rfl]
  rfl
theorem li_next_bound (it : Addr) : checkBoundCall "list_iterator.__next__" ⟨[.ref it], []⟩ = pure () := by kernel_rfl

noncomputable def mwr (m it : Addr) : Reg := cell m (fun o => o = { cls := .type "method-wrapper", data := .fields #[.builtin "list_iterator.__next__", .ref it] })
section
variable {w : World} {A : Around} {E : Value → Shared → Prop} {s : Shared} {B : Bs} {l l' : List Reg} {it r m : Addr} {i : Nat} {xs : List Int}
set_option tactic.hygienic true in
theorem ga_next {Q : Value → Shared → Prop} (hA : A.depth < 900) (hh : A.handled = none) (H : St B s l) (G : Gd (hd.heap_39 w.params) B.g) (ho : s.heap.get? it = some { cls := .type "list_iterator", dict := none, data := .fields #[.ref r, .int 0 0], slots := #[] })
    (h : ∀ m s', St B s' (mwr m it :: l) → Q (.ref m) s') : wpAny (model PySem.Challenge.pw_xc0002_01 w) A (getAttr (.ref it) (Str.ofString "__next__") true) Q E s := by
  unfold getAttr
  refine wpAny_bind (wpAny_mkText ?_)
  unfold getAttrBy
  refine wpAny_holding (wpAny_bind (wpAny_typeOf (T := "list_iterator") ⟨_, ho, rfl⟩ ?_))
  rw [li_getattribute]
  refine wpAny_bind (wpAny_pure ?_)
  show wpAny _ _ (getAttrByItsOwn (.ref it) _ (.type "list_iterator") (.builtin "object.__getattribute__") true true) _ _ _
  unfold getAttrByItsOwn
  refine wpAny_bind (wpAny_pure (a := none) (wpAny_bind ?_))
  refine wpAny_attempt (wpAny_holding ?_)
  show wpAny _ _ (boundAndCalled (.builtin "object.__getattribute__") (.ref it) _) _ _ _
  unfold boundAndCalled
  rw [li_bind]
  refine wpAny_bind (wpAny_pure ?_)
  refine wpAny_call (codeAny_call_builtin slot_li_ga.plain F.entry_object_getattribute (slot_li_ga.check _ _ _ _ _ _ _ _ ⟨_, ho, rfl⟩ (F.args_object_getattribute_2 _ _) (li_next_entry (s := { s with toks := s.toks + 1 }) ho ?_)))
  refine wpAny_pure (h s.heap.objs.size _ ?_)
  exact (H.toks (s.toks + 1)).push (p := fun o => o = { cls := .type "method-wrapper", data := .fields #[.builtin "list_iterator.__next__", .ref it] }) rfl rfl _
theorem iter_call {prog : Program} {S : Lay} {n k : Nat} {succ : Nat → List Int} {Q : Value → Shared → Prop} (H : St B s l) (hm : many n (sl S succ) ∈ l) (hk : k < n)
    (h : ∀ it s', s'.heap.get? it = some { cls := .type "list_iterator", dict := none, data := .fields #[.ref (S.s k), .int 0 0], slots := #[] } → St B s' (liter it (S.s k) 0 :: l) → Q (.ref it) s') :
    wpAny (model prog w) A (call (.builtin "iter") [.ref (S.s k)]) Q E s := by
  obtain ⟨vs, hv, hl⟩ := sl_is H hm hk
  refine call_function_entry (by decide +kernel) (by decide +kernel) kdk_entry_iter (kdk_args_iter _) ?_
  unfold Builtin.«iter»
  refine wpAny_bind (m := someArgs "iter" 1 2 _) (wpAny_of_eq (a := [Value.ref (S.s k)]) (by first | rfl | kernel_rfl!) ?_)
  show wpAny _ _ (pyIter (.ref (S.s k)) >>= _) _ _ _
  refine wpAny_bind (wpAny_pyIter_list hl ?_)
  exact wpAny_pure ⟨_, rfl, h _ _ (Heap.get?_push_size _ rfl) (H.new1 rfl ⟨rfl, rfl⟩)⟩
theorem cw_mw {prog : Program} {pos : Pos} {env : Env} {first : List Value} {Q : Value → Shared → Prop} {kws : List (Option Str × Sem Value)} (H : St B s l) (hm : mwr m it ∈ l) (h : wpAny (model prog w) A (call (.ref m) (first ++ [])) Q E s) (hk : kws = []) :
    wpAny (model prog w) A (callWith pos (.ref m) first (backTo pos (starEach [] env)) kws) Q E s := by
  subst hk
  obtain ⟨o, ho, rfl⟩ := H.get hm
  refine callWith_of (P := fun hp => hp.get? m = some { cls := .type "method-wrapper", data := .fields #[.builtin "list_iterator.__next__", .ref it] }) rfl (fun hp X => ⟨.machine, .inr (.inl rfl), (Looks.ld (part := none) X).andThen .now⟩) (evalArgs_nil3 ⟨ho, h⟩)
set_option tactic.hygienic true in
theorem mw_item {prog : Program} {S : Lay} {n k : Nat} {succ : Nat → List Int} {Q : Value → Shared → Prop} (H : St B s l) (hm : mwr m it ∈ l) (R : Rep (liter it (S.s k) i) (liter it (S.s k) (i + 1)) l l') (hl : many n (sl S succ) ∈ l) (hk : k < n) (hi : i < (succ k).length)
    (h : ∀ t s', St B s' l' → Q (.int (succ k)[i] t) s') : wpAny (model prog w) A (call (.ref m) []) Q E s := by
  obtain ⟨o, hom, rfl⟩ := H.get hm
  obtain ⟨vs, hv, hls⟩ := sl_is H hl hk
  obtain ⟨t, ht⟩ := ints_at hv i hi
  obtain ⟨o, ho, hc, hd⟩ := H.get R.mem
  obtain ⟨ol, hol, _, nl, hdl⟩ := hls
  refine wpAny_call (codeAny_of_tree ?_)
  show wpAny _ _ (callAny (.ref m) _) _ _ _
  unfold callAny
  refine wpAny_bind (wpAny_load hom ?_)
  show wpAny _ _ (checkBoundCall "list_iterator.__next__" ⟨[.ref it], []⟩ >>= _) _ _ _
  rw [li_next_bound]
  refine wpAny_bind (wpAny_pure (wpAny_pure ⟨Code.quiet_builtin _ (by decide +kernel), codeAny_builtin entry_listiter_next ?_⟩))
  show wpAny _ _ (field (.ref it) 0 >>= _) _ _ s
  refine wpAny_bind (wpAny_field ho hd (x := .ref (S.s k)) rfl ?_)
  show wpAny _ _ (if (Value.ref (S.s k) == Value.none) = true then _ else _) _ _ s
  rw [if_neg (show ¬ ((Value.ref (S.s k) == Value.none) = true) from Bool.false_ne_true)]
  show wpAny _ _ (field (.ref it) 1 >>= _) _ _ s
  refine wpAny_bind (wpAny_field ho hd (x := .int i 0) rfl ?_)
  show wpAny _ _ (seqItems? (.ref (S.s k)) >>= _) _ _ s
  refine wpAny_bind (wpAny_seqItems hol hdl ?_)
  have hx : vs.toArray[i]? = some (.int (succ k)[i] t) := by simpa using ht
  simp only [Int.toNat_natCast, hx]
  refine wpAny_bind (wpAny_setField ho hd (by simp) (wpAny_pure (h t _ ?_)))
  refine H.same1 R (Heap.SameBut.update ..) ⟨_, Heap.get?_update_self _ ho (Obj.isFreed_of_fields (Obj.data_mapFields hd _)), (Obj.cls_mapFields ..).trans hc, ?_⟩ s.toks
  rw [Obj.data_mapFields hd]; simp [rawInt]
noncomputable def excr (e : Addr) (cls a0 tb : Value) : Reg := cell e (fun o => o.cls = cls ∧ ∃ vs, o.data = .fields vs ∧ vs[0]? = some a0 ∧ vs[1]? = some tb ∧ vs[2]? = some .none)
theorem St.out {r : Reg} (H : St B s l) (O : Out r l l') : St B s (r :: l') := H.perm O.perm
set_option tactic.hygienic true in
theorem mw_end {prog : Program} {S : Lay} {n k : Nat} {succ : Nat → List Int} {Q : Value → Shared → Prop} (hh : A.handled = none) (H : St B s l) (hm : mwr m it ∈ l) (O : Out (liter it (S.s k) i) l l') (hl : many n (sl S succ) ∈ l) (hk : k < n) (hi : i = (succ k).length)
    (h : ∀ e a0 s', St B s' (excr e (.type "StopIteration") a0 .none :: l') → E (.ref e) s') : wpAny (model prog w) A (call (.ref m) []) Q E s := by
  obtain ⟨o, hom, rfl⟩ := H.get hm
  obtain ⟨vs, hv, hls⟩ := sl_is H hl hk
  have H1 := H.out O
  obtain ⟨o, ho, hc, hd⟩ := H1.head
  obtain ⟨ol, hol, _, nl, hdl⟩ := hls
  refine wpAny_call (codeAny_of_tree ?_)
  show wpAny _ _ (callAny (.ref m) _) _ _ _
  unfold callAny
  refine wpAny_bind (wpAny_load hom ?_)
  show wpAny _ _ (checkBoundCall "list_iterator.__next__" ⟨[.ref it], []⟩ >>= _) _ _ _
  rw [li_next_bound]
  refine wpAny_bind (wpAny_pure (wpAny_pure ⟨Code.quiet_builtin _ (by decide +kernel), codeAny_builtin entry_listiter_next ?_⟩))
  show wpAny _ _ (field (.ref it) 0 >>= _) _ _ s
  refine wpAny_bind (wpAny_field ho hd (x := .ref (S.s k)) rfl ?_)
  show wpAny _ _ (if (Value.ref (S.s k) == Value.none) = true then _ else _) _ _ s
  rw [if_neg (show ¬ ((Value.ref (S.s k) == Value.none) = true) from Bool.false_ne_true)]
  show wpAny _ _ (field (.ref it) 1 >>= _) _ _ s
  refine wpAny_bind (wpAny_field ho hd (x := .int i 0) rfl ?_)
  show wpAny _ _ (seqItems? (.ref (S.s k)) >>= _) _ _ s
  refine wpAny_bind (wpAny_seqItems hol hdl ?_)
  have hx : vs.toArray[i]? = none := by simp [hv.length, hi]
  simp only [Int.toNat_natCast, hx]
  refine wpAny_bind (wpAny_rule (wpAny_bind (wpAny_setField ho hd (by simp) ?_)))
  have H2 : St B { s with heap := s.heap.update it (Obj.mapFields (·.setIfInBounds 0 .none)) } l' := H1.drop rfl rfl rfl fun a o e n => (Heap.get?_update_other _ _ (fun q => n (by show a ∈ [it]; rw [q]; exact .head _))).trans e
  revert H2
  generalize ({ s with heap := s.heap.update it (Obj.mapFields (·.setIfInBounds 0 .none)) } : Shared) = s₂
  intro H2
  show wpAny _ _ (newExc (.type "StopIteration") [] >>= _) _ _ _
  refine wpAny_bind ?_
  simp only [newExc, newTuple]
  refine wpAny_bind (wpAny_newObj_type ?_ (by size_fits))
  refine wpAny_bind (m := firstArgMember _ _) (wpAny_of_eq (a := Value.none) (by first | rfl | (simp only [firstArgMember]; rfl)) ?_)
  refine wpAny_newObj_type ?_ (by size_fits)
  simp only [raiseNew]
  refine wpAny_bind (wpAny_handled ?_)
  have hh' : ∀ c, (A.under c).handled = none := fun _ => hh
  rw [hh']
  refine wpAny_bind (wpAny_pure (wpAny_throw ?_))
  refine h _ (.ref s₂.heap.objs.size) _ ?_
  have H3 : St B { s₂ with heap := s₂.heap.push { cls := .type "tuple", data := .seq ([] : List Value).toArray } } l' := H2.same rfl rfl rfl fun _ _ q => Heap.get?_push_of_some _ q
  exact H3.new1 rfl ⟨rfl, _, rfl, rfl, rfl, rfl⟩
end
end
section
open PySem PySem.W PyProof.Rows PySem.Calls PySem.Spec

theorem pw_eq {α : Type} {R : α → α → Prop} {l : List α} (h : l.Pairwise R) {x y : α} (hx : x ∈ l) (hy : y ∈ l) : x = y ∨ R x y ∨ R y x := by
  induction h with
  | nil => cases hx
  | cons h1 _ ih =>
    rcases List.mem_cons.mp hx with e | hx1 <;> rcases List.mem_cons.mp hy with e' | hy1
    · exact .inl (e.trans e'.symm)
    · exact .inr (.inl (e ▸ h1 _ hy1))
    · exact .inr (.inr (e' ▸ h1 _ hx1))
    · exact ih hx1 hy1
noncomputable def FrL (envs : List Env) (l : List Reg) : Prop := ∀ env ∈ envs, env.scope.kind ≠ .module ∧ ∃ L fs, env.frame = some L ∧ frame L fs ∈ l
theorem FrL.sub {envs : List Env} {l l' : List Reg} (h : FrL envs l) (k : ∀ x ∈ l, x ∈ l') : FrL envs l' := fun env he => let ⟨a, L, fs, b, c⟩ := h env he; ⟨a, L, fs, b, k _ c⟩
theorem FrL.cons {env : Env} {envs : List Env} {l : List Reg} {L : Addr} {fs : List (Str × Value)} (hk : env.scope.kind ≠ .module) (hf : env.frame = some L) (hm : frame L fs ∈ l) (h : FrL envs l) : FrL (env :: envs) l := fun e he => by
  rcases List.mem_cons.mp he with rfl | he
  · exact ⟨hk, L, fs, hf, hm⟩
  · exact h e he
section
variable {B : Bs} {s : Shared} {l l' : List Reg}
theorem St.same_reg (H : St B s l) {r r' : Reg} (h : r ∈ l) (h' : r' ∈ l) {a : Addr} (ha : a ∈ r.fp) (ha' : a ∈ r'.fp) : r = r' := by
  rcases pw_eq H.sep h h' with e | e | e
  · exact e
  · exact absurd ha' (e a ha)
  · exact absurd ha (e a ha')
theorem FrL.fun {envs : List Env} (h : FrL envs l) (H : St B s l) : s.heap.FunFrames B.g envs := by
  induction envs with
  | nil => trivial
  | cons env envs ih =>
    obtain ⟨hk, L, fs, hf, hm⟩ := h env (.head _)
    obtain ⟨m, ⟨o, es, ep, ho, hd, _⟩, _⟩ := H.get hm
    exact ⟨hk, ⟨L, o, hf, H.off _ hm L (.head _), ho, fun vs q => by rw [hd] at q; cases q⟩, ih fun e he => h e (.tail _ he)⟩
theorem St.slots {Ls : List Addr} {h' : Heap} (H : St B s l) (hs : Heap.SlotsOnly Ls s.heap h') (hL : ∀ L ∈ Ls, ∃ fs, frame L fs ∈ l) : St B { s with heap := h' } l := by
  refine ⟨H.ge, H.dr, H.os, fun b o e => ?_, fun r hr => ?_, H.off, H.sep⟩
  · refine (hs.2.1 b fun hb => ?_).trans (H.keep b o e)
    obtain ⟨fs, hm⟩ := hL b hb
    rw [H.off _ hm b (.head _)] at e; cases e
  · by_cases q : ∃ L ∈ Ls, L ∈ r.fp
    · obtain ⟨L, hLs, hLr⟩ := q
      obtain ⟨fs, hm⟩ := hL L hLs
      have e := H.same_reg hr hm hLr (List.mem_singleton.mpr rfl)
      subst e
      obtain ⟨m, ⟨o, es, ep, ho, r⟩, q⟩ := H.get hm
      obtain ⟨sl, hsl⟩ := hs.2.2 L o ho
      exact ⟨m, ⟨_, es, ep, hsl, r⟩, q⟩
    · exact r.mono s.heap h' (fun a ha => hs.2.1 a fun hb => q ⟨a, hb, ha⟩) (H.regs r hr)
end

noncomputable def tbr (T : Addr) (fl : Value) : Reg := cell T (fun o => ∃ ts, o.data = .fields ts ∧ ts[3]? = some fl)
section
variable {M : Model} {A : Around} {E : Value → Shared → Prop} {s : Shared} {B : Bs} {l l' l₂ : List Reg} {e T L : Addr} {cls a0 tb fl : Value} {env : Env} {outer : List Env}
theorem entry_made {head : Value} {hadNext : Bool} {Q : Unit → Shared → Prop} (hfr : A.frames = some (env :: outer)) (hF : FrL (env :: outer) l) (hf : env.frame = some L) (H : St B s l) (O : Out (excr e cls a0 tb) l l')
    (h : ∀ T s', St B s' (excr e cls a0 (.ref T) :: tbr T (rawInt L) :: l') → Q () s') :
    wpAny M A (do let a ← frameOf env; let pl ← entryPlaceOf L hadNext; let b ← EntryCells.newEntry head a .none (rawInt L) .none pl; setField (.ref e) 1 b) Q E s := by
  refine wpAny_bind (wpAny_frameOf_fun hfr (hF.fun H) hf fun h₁ hs₁ => ?_)
  have H1 : St B { s with heap := h₁ } l := H.slots hs₁ fun a ha => by
    obtain ⟨env', he', hf'⟩ := List.mem_filterMap.mp ha
    obtain ⟨_, L', fs, e1, e2⟩ := hF env' he'
    rw [hf'] at e1; cases e1; exact ⟨fs, e2⟩
  have H2 := H1.out O
  revert H2
  generalize ({ s with heap := h₁ } : Shared) = s₁
  intro H2
  refine wpAny_bind (wpAny_entryPlaceOf fun pl hpl => ?_)
  unfold EntryCells.newEntry newFields
  refine wpAny_bind (wpAny_newObj_type ?_ (hpl.sizeOk5 _ _ _ _ _))
  have H3 : St B { s₁ with heap := s₁.heap.push { cls := .type "traceback", dict := none, data := .fields ([head, .ref L, .none, rawInt L, .none] ++ (if pl.isEmpty then List.replicate 6 Value.none else pl)).toArray } } (tbr s₁.heap.objs.size (rawInt L) :: excr e cls a0 tb :: l') :=
    H2.new1 rfl ⟨_, rfl, rfl⟩
  obtain ⟨o, ho, hc, vs, hd, h0, h1, h2⟩ := H3.get (.tail _ (.head _))
  have hsz : 1 < vs.size := (Array.getElem?_eq_some_iff.mp h1).1
  refine wpAny_setField ho hd hsz (h s₁.heap.objs.size _ ?_)
  have H4 := H3.perm (.swap ..)
  refine H4.turn rfl rfl rfl (fun b ob eb n => (Heap.get?_update_other _ _ (Ne.symm n)).trans eb) ⟨_, Heap.get?_update_self _ ho (Obj.isFreed_of_fields (Obj.data_mapFields hd _)), (Obj.cls_mapFields ..).trans hc, _, Obj.data_mapFields hd _, ?_, ?_, ?_⟩
  · rw [Array.getElem?_setIfInBounds_ne (by decide)]; exact h0
  · simp [hsz]
  · rw [Array.getElem?_setIfInBounds_ne (by decide)]; exact h2
theorem note_first {Q : Unit → Shared → Prop} (hfr : A.frames = some (env :: outer)) (hF : FrL (env :: outer) l) (hf : env.frame = some L) (H : St B s l) (O : Out (excr e cls a0 .none) l l')
    (h : ∀ T s', St B s' (excr e cls a0 (.ref T) :: tbr T (rawInt L) :: l') → Q () s') : wpAny M A (noteFrame (.ref e) env) Q E s := by
  obtain ⟨o, ho, hc, vs, hd, h0, h1, h2⟩ := (H.out O).head
  unfold noteFrame
  simp only [hf]
  refine wpAny_bind (wpAny_field ho hd h1 ?_)
  rw [if_neg (by decide)]
  exact entry_made hfr hF hf H O h
theorem note_same {Q : Unit → Shared → Prop} (hf : env.frame = some L) (H : St B s l) (hm : excr e cls a0 (.ref T) ∈ l) (ht : tbr T (rawInt L) ∈ l) (h : Q () s) : wpAny M A (noteFrame (.ref e) env) Q E s := by
  obtain ⟨o, ho, hc, vs, hd, h0, h1, h2⟩ := H.get hm
  obtain ⟨ot, hot, ts, hdt, h3⟩ := H.get ht
  unfold noteFrame
  simp only [hf]
  refine wpAny_bind (wpAny_field ho hd h1 ?_)
  rw [if_pos (show (Value.ref T != Value.none) = true from by simp)]
  refine wpAny_bind (wpAny_field hot hdt h3 ?_)
  rw [if_pos (show (rawInt L == rawInt L) = true from by simp)]
  exact wpAny_pure h
theorem tb_set {fl' : Value} {Q : Unit → Shared → Prop} (H : St B s l) (R : Rep (tbr T fl) (tbr T fl') l l') (h : ∀ s', St B s' l' → Q () s') : wpAny M A (setField (.ref T) 3 fl') Q E s := by
  obtain ⟨ot, hot, ts, hdt, h3⟩ := H.get R.mem
  refine wpAny_setField hot hdt (Array.getElem?_eq_some_iff.mp h3).1 (h _ ?_)
  exact H.same1 R (Heap.SameBut.update ..) ⟨_, Heap.get?_update_self _ hot (Obj.isFreed_of_fields (Obj.data_mapFields hdt _)), _, Obj.data_mapFields hdt _, by simp [(Array.getElem?_eq_some_iff.mp h3).1]⟩ s.toks
theorem flight_none {Q : Unit → Shared → Prop} (H : St B s l) (hm : excr e cls a0 (.ref T) ∈ l) (R : Rep (tbr T fl) (tbr T .none) l l') (h : ∀ s', St B s' l' → Q () s') : wpAny M A (setFlight (.ref e) none) Q E s := by
  obtain ⟨o, ho, hc, vs, hd, h0, h1, h2⟩ := H.get hm
  unfold setFlight
  refine wpAny_bind (wpAny_field ho hd h1 ?_)
  rw [if_pos (show (Value.ref T != Value.none) = true from by simp)]
  exact tb_set H R h
set_option tactic.hygienic true in
theorem note_next {Q : Unit → Shared → Prop} (hfr : A.frames = some (env :: outer)) (hF : FrL (env :: outer) l) (hf : env.frame = some L) (H : St B s l) (O : Out (excr e cls a0 (.ref T)) l l') (ht : tbr T .none ∈ l)
    (h : ∀ T' s', St B s' (excr e cls a0 (.ref T') :: tbr T' (rawInt L) :: l') → Q () s') : wpAny M A (noteFrame (.ref e) env) Q E s := by
  obtain ⟨o, ho, hc, vs, hd, h0, h1, h2⟩ := (H.out O).head
  obtain ⟨ot, hot, ts, hdt, h3⟩ := H.get ht
  unfold noteFrame
  simp only [hf]
  refine wpAny_bind (wpAny_field ho hd h1 ?_)
  rw [if_pos (show (Value.ref T != Value.none) = true from by simp)]
  refine wpAny_bind (wpAny_field hot hdt h3 ?_)
  rw [if_neg (show ¬ ((Value.none == rawInt L) = true) from by simp [rawInt])]
  obtain ⟨p, q, rfl⟩ : ∃ p q, l = p ++ tbr T .none :: q := List.append_of_mem ht
  have R : Rep (tbr T .none) (tbr T .none) (p ++ tbr T .none :: q) (p ++ tbr T .none :: q) := by
    clear H O ht hF hot
    induction p with
    | nil => exact .here
    | cons x p ih => exact .there ih
  refine wpAny_bind (tb_set H R fun s' H' => ?_)
  exact entry_made hfr hF hf H' O h
theorem leave_first {Q : Unit → Shared → Prop} (hfr : A.frames = some (env :: outer)) (hF : FrL (env :: outer) l) (hf : env.frame = some L) (H : St B s l) (O : Out (excr e cls a0 .none) l l')
    (h : ∀ T s', St B s' (excr e cls a0 (.ref T) :: tbr T .none :: l') → Q () s') : wpAny M A (leaving env (.ref e)) Q E s := by
  unfold leaving
  exact wpAny_bind (note_first hfr hF hf H O fun T s' H' => flight_none H' (.head _) (.there .here) fun s'' H'' => h T s'' H'')
set_option tactic.hygienic true in
theorem leave_next {Q : Unit → Shared → Prop} (hfr : A.frames = some (env :: outer)) (hF : FrL (env :: outer) l) (hf : env.frame = some L) (H : St B s l) (O : Out (excr e cls a0 (.ref T)) l l') (ht : tbr T .none ∈ l)
    (h : ∀ T' s', St B s' (excr e cls a0 (.ref T') :: tbr T' .none :: l') → Q () s') : wpAny M A (leaving env (.ref e)) Q E s := by
  unfold leaving
  exact wpAny_bind (note_next hfr hF hf H O ht fun T' s' H' => flight_none H' (.head _) (.there .here) fun s'' H'' => h T' s'' H'')
theorem leave_same {Q : Unit → Shared → Prop} (hf : env.frame = some L) (H : St B s l) (hm : excr e cls a0 (.ref T) ∈ l) (R : Rep (tbr T (rawInt L)) (tbr T .none) l l')
    (h : ∀ s', St B s' l' → Q () s') : wpAny M A (leaving env (.ref e)) Q E s := by
  unfold leaving
  exact wpAny_bind (note_same hf H hm R.mem (flight_none H hm R h))
end
end
section
open PySem PySem.W PyProof.Rows PySem.Calls PySem.Spec
noncomputable def n2iE (prog : Program) (w : World) (S : Lay) (n ep : Nat) : Reg := cell S.n (fun o => (S.n == sysModules) = false ∧ ∃ es, o.ExactDict ∧ o.data = .dict es ep ∧ KeysOf (intKind prog w) es ∧ Pairs (intKind prog w) es.toList (kvsN S n) ∧ ((kvsN S n).map (·.1)).Nodup)
noncomputable def kiter (it d : Addr) (n ep i : Nat) : Reg := cell it (fun o => o.cls = .type "dict_keyiterator" ∧ o.data = .fields #[.ref d, .int i 0, .int n 0, .int ep 0])
noncomputable def viter (it d : Addr) (n ep i : Nat) : Reg := cell it (fun o => o.cls = .type "dict_valueiterator" ∧ o.data = .fields #[.ref d, .int i 0, .int n 0, .int ep 0])
section
variable {prog : Program} {w : World} {A : Around} {E : Value → Shared → Prop} {s : Shared} {B : Bs} {l l' : List Reg} {S : Lay} {n ep it : Nat} {k : Int} {t : Nat}
theorem St.toE (H : St B s (n2i S n :: l)) : ∃ ep, St B s (n2iE prog w S n ep :: l) := by
  obtain ⟨o, ho, hs, es, ep, hx, hd, r⟩ := n2i_to (prog := prog) (w := w) H.head
  exact ⟨ep, H.weak (fun _ => ⟨o, ho, hs, es, hx, hd, r⟩) fun _ h => h⟩
theorem n2iE_i {h : Heap} (x : (n2iE prog w S n ep).P h) : (n2i S n).P h := by
  obtain ⟨o, ho, hs, es, r⟩ := x
  exact n2i_of (prog := prog) (w := w) ⟨o, ho, hs, es, ep, r⟩
theorem kvs_len : (kvsN S n).length = n := by simp [kvsN]
theorem kvs_at {i : Nat} (hi : i < n) : (kvsN S n)[i]? = some ((i : Int), Value.ref (S.i i)) := by simp [kvsN, hi]
theorem n2iE_at (H : St B s l) (hm : n2iE prog w S n ep ∈ l) : s.heap.DictAt (intKind prog w) S.n (kvsN S n) ep := by
  obtain ⟨o, ho, hs, es, r⟩ := H.get hm
  exact ⟨o, es, ho, r⟩
theorem iter_n2iE {Q : Value → Shared → Prop} (H : St B s l) (hm : n2iE prog w S n ep ∈ l) (h : ∀ it s', St B s' (kiter it S.n n ep 0 :: l) → Q (.ref it) s') : wpAny (model prog w) A (pyIter (.ref S.n)) Q E s := by
  obtain ⟨o, ho, hs, _⟩ := H.get hm
  refine wpAny_pyIter_dict hs (n2iE_at H hm) (h _ _ (H.new1 rfl ?_))
  rw [kvs_len]; exact ⟨rfl, rfl⟩
theorem sub_n2iE {value slice : Expr} {Q : Value → Shared → Prop} (H : St B s l) (hm : n2iE prog w S n ep ∈ l) (h0 : 0 ≤ k) (h1 : k < n) (h : ∀ s', St B s' l → Q (.ref (S.i k.toNat)) s')
    (hs : subscripted slice false (.ref S.n) (.int k t) = operate [.ref S.n, .int k t] (getItem (.ref S.n) (.int k t))) :
    wpAny (model prog w) A (subscriptTail value slice (.ref S.n) (.int k t)) Q E s := by
  have hD := (n2iE_at H hm).dictOf
  refine tail_any hD.typeIs F.slot_dict_getitem.lookup (wpAny_getItem_of (v := .ref (S.i k.toNat)) (intKind_is prog w k t) hD.mapOf ?_ (h _ (H.toks _))) hs
  unfold valueAt
  have e : (kvsN S n).find? (fun kv => decide (kv.1 = k)) = some (k, .ref (S.i k.toNat)) := by
    rw [List.find?_eq_some_iff_getElem]
    refine ⟨by simp, k.toNat, by rw [kvs_len]; (first | lia | omega), ?_, fun j hj => ?_⟩
    · have hk : ((k.toNat : Nat) : Int) = k := by (first | lia | omega)
      simp only [kvsN, List.getElem_map, List.getElem_range, hk]
    · simp only [kvsN, List.getElem_map, List.getElem_range, Bool.not_eq_true', decide_eq_false_iff_not]; (first | lia | omega)
  rw [e]; rfl
set_option tactic.hygienic true in
theorem itr_keys (hh : A.handled = none) : Itr prog w B A it n (kiter it S.n n ep) (fun i v => ∃ t, v = .int i t) (fun l => n2iE prog w S n ep ∈ l) where
  next i l s Q E hi hD H h := by
    obtain ⟨o, ho, hc, hd⟩ := H.head
    refine wpAny_pyNext_dict_item (kvs := kvsN S n) (by rw [kvs_len]; exact ⟨o, ho, hc, hd⟩) (n2iE_at H (.tail _ hD)) (kvs_at hi) fun key h' hk hit hs => ?_
    rw [kvs_len] at hit
    obtain ⟨t, rfl⟩ := Value.isInt_shape (k := (i : Int)) (v := key) hk
    obtain ⟨o', ho', hc', hd'⟩ := hit
    exact h _ _ ⟨t, rfl⟩ (H.turn rfl rfl rfl (fun b o e nb => (hs.2 b nb).trans e) ⟨o', ho', hc', hd'⟩)
  fin l s Q E hD H h := by
    obtain ⟨o, ho, hc, hd⟩ := H.head
    exact wpAny_pyNext_dict_end (kvs := kvsN S n) (i := n) hh (by rw [kvs_len]; exact ⟨o, ho, hc, hd⟩) (n2iE_at H (.tail _ hD)) (by simp [kvs_len]) fun h' hx => h _ (H.drop rfl rfl rfl fun b o e nb => hx b o (fun z => nb (by show b ∈ [it]; rw [z]; exact .head _)) e)
  self i l s Q E H h := by
    obtain ⟨o, ho, hc, hd⟩ := H.head
    exact wpAny_pyIter_keyiter (n := n) (ep := ep) ⟨o, ho, hc, hd⟩ h
set_option tactic.hygienic true in
theorem itr_vals (hh : A.handled = none) : Itr prog w B A it n (viter it S.n n ep) (fun i v => v = .ref (S.i i)) (fun l => n2iE prog w S n ep ∈ l) where
  next i l s Q E hi hD H h := by
    obtain ⟨o, ho, hc, hd⟩ := H.head
    refine wpAny_pyNext_values_item (kvs := kvsN S n) (by rw [kvs_len]; exact ⟨o, ho, hc, hd⟩) (n2iE_at H (.tail _ hD)) (kvs_at hi) fun h' hit hs => ?_
    rw [kvs_len] at hit
    obtain ⟨o', ho', hc', hd'⟩ := hit
    exact h _ _ rfl (H.turn rfl rfl rfl (fun b o e nb => (hs.2 b nb).trans e) ⟨o', ho', hc', hd'⟩)
  fin l s Q E hD H h := by
    obtain ⟨o, ho, hc, hd⟩ := H.head
    exact wpAny_pyNext_values_end (kvs := kvsN S n) (i := n) hh (by rw [kvs_len]; exact ⟨o, ho, hc, hd⟩) (n2iE_at H (.tail _ hD)) (by simp [kvs_len]) fun h' hx => h _ (H.drop rfl rfl rfl fun b o e nb => hx b o (fun z => nb (by show b ∈ [it]; rw [z]; exact .head _)) e)
  self i l s Q E H h := by
    obtain ⟨o, ho, hc, hd⟩ := H.head
    exact wpAny_pyIter_valiter (n := n) (ep := ep) ⟨o, ho, hc, hd⟩ h
noncomputable def dview (v d : Addr) : Reg := cell v (fun o => o.cls = .type "dict_values" ∧ o.data = .fields #[.ref d])
theorem gm_n2iE {name : Str} {id : String} {pl : Sem Bool} {Q : Value × List Value → Shared → Prop} (H : St B s l) (hm : n2iE prog w S n ep ∈ l) (slot : Slot "dict" name id) (hty : typeOf (.builtin id) = pure (.type "method_descriptor")) (h : Q (.builtin id, [.ref S.n]) s) :
    wpAny (model prog w) A (getMethod (.ref S.n) name pl) Q E s := by
  obtain ⟨o, ho, hd, es, hx, _⟩ := H.get hm
  exact getMethod_builtin ⟨_, ho, hx.1⟩ F.plainAttrs_dict slot hty (fun a e => by cases e; exact ⟨_, ho, hx.2.1⟩) h
theorem call_values {Q : Value → Shared → Prop} (H : St B s l) (hm : n2iE prog w S n ep ∈ l) (h : ∀ v s', St B s' (dview v S.n :: l) → Q (.ref v) s') : wpAny (model prog w) A (call (.builtin "dict.values") [.ref S.n]) Q E s := by
  have hD := n2iE_at H hm
  obtain ⟨o, ho, hs, _⟩ := H.get hm
  exact call_meetsIn F.slot_dict_values hD.dictOf.typeIs F.entry_dict_values (F.args_dict_values_1 _) (meets_dict_values (intKind prog w) S.n hs) ⟨⟨_, hD.dictOf⟩, h _ _ (H.new1 rfl ⟨rfl, rfl⟩)⟩
theorem iter_values {v : Addr} {Q : Value → Shared → Prop} (H : St B s l) (hm : n2iE prog w S n ep ∈ l) (hv : dview v S.n ∈ l) (h : ∀ it s', St B s' (viter it S.n n ep 0 :: l) → Q (.ref it) s') : wpAny (model prog w) A (pyIter (.ref v)) Q E s := by
  obtain ⟨o, ho, hc, hd⟩ := H.get hv
  refine wpAny_pyIter_values ⟨o, ho, hc, hd⟩ (n2iE_at H hm) (h _ _ (H.new1 rfl ?_))
  rw [kvs_len]; exact ⟨rfl, rfl⟩
end
end
section
open PySem PySem.W PyProof.Rows PySem.Calls PySem.Spec
theorem ce_cls (P : Params) : (hd.heap_39 P).lookup 48 = some (excClassObj (Str.ofString "CycleError") (Str.ofString "CycleError") 48 47 [Value.type "ValueError"] [.type "ValueError", .type "Exception", .type "BaseException", .type "object"] true [] [] false none none (some (Value.ref 39)) none (some (Value.str (Str.ofString "CycleError") 232)) (some (Value.str (Str.ofString "CycleError") 240)) (some (Value.bool true)) "ValueError.__new__") := rfl
noncomputable def vtup (a : Addr) (vs : List Value) : Reg := cell a (fun o => ∃ n, o = ({ cls := .type "tuple", data := .seq vs.toArray n } : Obj))
section
variable {prog : Program} {w : World} {A : Around} {E : Value → Shared → Prop} {s : Shared} {B : Bs} {l l' : List Reg} {env : Env}
theorem raise_ce {x : Str} {np cpos pos : Pos} {a : Expr} {rest : List Expr} {Q : Flow → Shared → Prop} (hh : A.handled = none) (G : Gd (hd.heap_39 w.params) B.g)
    (h : wpAny (model prog w) A (eval (.Name x np) env) (fun f s₁ => f = .ref 48 ∧ wpAny (model prog w) A (spliced (backTo cpos (starEach (a :: rest) env))) (fun vs s₂ => vs.length ≤ 100 ∧ ∃ l, St B s₂ l ∧
      ∀ e t s', St B s' (excr e (.ref 48) (.ref t) .none :: vtup t vs :: l) → E (.ref e) s') E s₁) E s)
    (he : starEach (a :: rest) env = (false, eval a env) :: starEach rest env) (hplain : (backTo cpos (starEach rest env)).any (·.1) = false) :
    wpAny (model prog w) A (exec (.Raise (some (.Call (.Name x np) (a :: rest) [] cpos)) none pos) env) Q E s := by
  have hns : B.g.Ns 47 (B.g.nsMap 47) := .of_isNs (isNs_of_in G.K (by kernel_rfl))
  have hni : B.g.nsMap 47 "__init__" = none := nsMap_none_of_in G.K (by kernel_rfl) (by k_is)
  have hpl : (backTo cpos (starEach (a :: rest) env)).any (·.1) = false := by rw [he]; show (false || (backTo cpos (starEach rest env)).any (·.1)) = false; rw [hplain]; rfl
  refine wpAny_Raise_call_sub (nm := Str.ofString "CycleError") (q := Str.ofString "CycleError") (C := 48) (N := 47) (bs := [Value.type "ValueError"]) (hdct := true) (sn := []) (sub := []) (ab := false) (col := none) (dd := none) (k0 := some (Value.ref 39)) (k1 := none) (k2 := some (Value.str (Str.ofString "CycleError") 232)) (k3 := some (Value.str (Str.ofString "CycleError") 240)) (k5 := some (Value.bool true)) PySem.F.excBase_ValueError hh hpl hni (wpAny_mono h (fun f s₁ h₁ => ⟨h₁.1, ?_⟩) fun _ _ x => x)
  have h2 := h₁.2
  rw [he] at h2 ⊢
  refine evalArgs_plain (wpAny_mono h2 (fun vs s₂ h₂ => ?_) fun _ _ x => x)
  obtain ⟨hl, l, H, hq⟩ := h₂
  refine ⟨rfl, by show vs.length ≤ sizeLine; rw [sizeLine_eq]; (first | lia | omega), (H.kin G) _ _ (ce_cls w.params), hns.keeps H.keep, fun h' e hm => ?_⟩
  obtain ⟨t, he, htn, ht⟩ := hm.there
  refine hq e t _ (St.addAll [excr e (.ref 48) (.ref t) .none, vtup t vs] H rfl rfl rfl (fun b o q => hm.keeps b o q) (fun r hr => ?_) (fun r hr b hb => ?_) ?_)
  · simp only [List.mem_cons, List.not_mem_nil, or_false] at hr
    rcases hr with rfl | rfl
    · exact ⟨_, he, rfl, _, rfl, rfl, rfl, rfl⟩
    · exact ⟨_, ht, 0, rfl⟩
  · simp only [List.mem_cons, List.not_mem_nil, or_false] at hr
    rcases hr with rfl | rfl
    · rw [List.mem_singleton.mp hb]; exact hm.new
    · rw [List.mem_singleton.mp hb]; exact htn
  · refine List.pairwise_cons.mpr ⟨fun r hr b hb hb' => ?_, by simp⟩
    rw [List.mem_singleton.mp hr] at hb'
    have e1 := List.mem_singleton.mp hb
    have e2 := List.mem_singleton.mp hb'
    rw [← e1, e2, ht] at he
    cases he
end
end
section
open PySem PySem.W PyProof.Rows PySem.Calls PySem.Spec
theorem entry_unchain : entryFor table "proto.unchain" = some Builtin.«proto.unchain» := entryFor_of_tree (by kernel_rfl)
section
variable {prog : Program} {w : World} {A : Around} {E : Value → Shared → Prop} {s : Shared} {B : Bs} {l l' : List Reg} {h e it : Addr}
theorem raiseNew_held {α : Type} {Q : α → Shared → Prop} {oh oe : Obj} {vh ve : Array Value} (hh : A.handled = some (.ref h)) (hne : h ≠ e) (h1 : s.heap.get? h = some oh) (h2 : oh.data = .fields vh) (h3 : vh[2]? = some .none)
    (e1 : s.heap.get? e = some oe) (e2 : oe.data = .fields ve) (e3 : 2 < ve.size) (hE : E (.ref e) { s with heap := s.heap.update e (Obj.mapFields (·.setIfInBounds 2 (.ref h))) }) :
    wpAny (model prog w) A (raiseNew (.ref e) : Sem α) Q E s := by
  unfold raiseNew
  refine wpAny_bind (wpAny_handled ?_)
  rw [hh]
  have hb : (Value.ref h != Value.ref e) = true := by simp [hne]
  simp only [hb, if_true]
  refine wpAny_bind (wpAny_holding (wpAny_runValue (codeAny_builtin entry_unchain ?_)))
  unfold Builtin.«proto.unchain»
  refine wpAny_bind (wpAny_field h1 h2 h3 ?_)
  rw [if_pos (by rfl)]
  refine wpAny_pure ?_
  show wpAny _ _ (setField (.ref e) 2 (.ref h) >>= fun _ => throw (Value.ref e)) _ _ _
  exact wpAny_bind (wpAny_setField e1 e2 e3 (wpAny_throw hE))
theorem stop_held {α : Type} {Q : α → Shared → Prop} {cls a0 tb : Value} (hh : A.handled = some (.ref h)) (H : St B s l) (hm : excr h cls a0 tb ∈ l) (hq : ∀ e s', St B s' l → s'.TypeIs (.ref e) "StopIteration" → E (.ref e) s') :
    wpAny (model prog w) A (newExc (.type "StopIteration") [] >>= fun e => (raiseNew e : Sem α)) Q E s := by
  refine wpAny_bind ?_
  simp only [newExc, newTuple]
  refine wpAny_bind (wpAny_newObj_type ?_ (by size_fits))
  refine wpAny_bind (m := firstArgMember _ _) (wpAny_of_eq (a := Value.none) (by first | rfl | (simp only [firstArgMember]; rfl)) ?_)
  have H1 : St B { s with heap := s.heap.push { cls := .type "tuple", data := .seq ([] : List Value).toArray } } l := H.same rfl rfl rfl fun _ _ q => Heap.get?_push_of_some _ q
  refine wpAny_newObj_type ?_ (by size_fits)
  obtain ⟨oh, ho, hc, vs, hd, h0, h1, h2⟩ := H1.get hm
  have hlt := Heap.lt_size ho
  refine raiseNew_held hh (Nat.ne_of_lt hlt) (Heap.get?_push_of_some _ ho) hd h2 (Heap.get?_push_size _ rfl) rfl (by first | exact Nat.le_of_ble_eq_true rfl | (simp; done) | (simp; (first | lia | omega))) (hq _ _ ?_ ⟨_, Heap.get?_update_self _ (Heap.get?_push_size _ rfl) rfl, rfl⟩)
  refine H1.same rfl rfl rfl fun b o q => ?_
  have hb := Heap.lt_size q
  exact (Heap.get?_update_other _ _ (Nat.ne_of_gt hb)).trans (Heap.get?_push_of_some _ q)
set_option tactic.hygienic true in
theorem range_end_held {a : Int} {n : Nat} {cls a0 tb : Value} {Q : Option Value → Shared → Prop} (hh : A.handled = some (.ref h)) (H : St B s (riter it a n n :: l)) (hm : excr h cls a0 tb ∈ l)
    (hq : ∀ s', St B s' l → Q none s') : wpAny (model prog w) A (pyNext (.ref it)) Q E s := by
  obtain ⟨o, ho, rfl⟩ := H.head
  have hT : s.TypeIs (.ref it) "range_iterator" := ⟨_, ho, rfl⟩
  unfold pyNext
  refine wpAny_bind (wpAny_attempt (wpAny_callSpecial?_slot (name := Str.ofString "__next__") hT F.slot_range_iterator_next
    (wpAny_call_entry F.slot_range_iterator_next hT F.entry_range_iterator_next ?_ (F.args_range_iterator_next_1 _))))
  show wpAny _ _ (field (.ref it) 0 >>= _) _ _ s
  refine wpAny_bind (wpAny_field ho rfl (x := rawInt (a + n)) rfl ?_)
  show wpAny _ _ (field (.ref it) 1 >>= _) _ _ s
  refine wpAny_bind (wpAny_field ho rfl (x := rawInt ((n : Int) - n)) rfl ?_)
  show wpAny _ _ (field (.ref it) 2 >>= _) _ _ s
  refine wpAny_bind (wpAny_field ho rfl (x := rawInt 1) rfl ?_)
  show wpAny _ _ (if (n : Int) - n ≤ 0 then _ else _) _ _ s
  rw [if_pos (by (first | lia | omega))]
  refine wpAny_bind (wpAny_rule ?_)
  refine wpAny_bind ?_
  refine stop_held (A := A.in1) hh H.tail hm fun e s' H' hT => ?_
  refine wpAny_bind (wpAny_isInstance (T := "StopIteration") (b := true) hT isSubtype_stop ?_)
  exact wpAny_pure (hq _ H')
end
theorem eqvAll_ints : ∀ xs ys : List Int, PyData.eqvAll (xs.map .int) (ys.map .int) = decide (xs = ys)
  | [], [] => rfl
  | [], _ :: _ => rfl
  | _ :: _, [] => rfl
  | x :: xs, y :: ys => by
    show (x == y && PyData.eqvAll (xs.map .int) (ys.map .int)) = _
    rw [eqvAll_ints xs ys, Bool.eq_iff_iff]
    simp
theorem lay_ints : ∀ xs : List Int, PyData.canLayAll0 (xs.map .int) = true
  | [] => rfl
  | _ :: xs => by show (true && PyData.canLayAll0 (xs.map .int)) = true; rw [lay_ints xs]; rfl
theorem depth_ints : ∀ xs : List Int, PyData.depthAll (xs.map .int) = 0
  | [] => rfl
  | _ :: xs => by show max 0 (PyData.depthAll (xs.map .int)) = 0; rw [depth_ints xs]; rfl
section
variable {prog : Program} {w : World} {A : Around} {E : Value → Shared → Prop} {s : Shared} {B : Bs} {l l' : List Reg} {r r' : Addr} {xs ys : List Int}
theorem reads_ilst (H : St B s l) (hm : ilst r xs ∈ l) : Reads s.heap (.ref r) (.list (xs.map .int)) [r] := by
  obtain ⟨o, ho, vs, n, rfl, hv⟩ := H.get hm
  exact .list ho rfl rfl (IntsAre.reads s.heap hv)
theorem reads_itup (H : St B s l) (hm : itup r xs ∈ l) : Reads s.heap (.ref r) (.tuple (xs.map .int)) [] := by
  obtain ⟨o, ho, vs, n, rfl, hv⟩ := H.get hm
  exact .tuple ho rfl rfl (IntsAre.reads s.heap hv)
theorem eq_ilst {Q : Value → Shared → Prop} (hu : A.units < 9000) (H : St B s l) (hm : ilst r xs ∈ l) (hm' : ilst r' ys ∈ l) (h : ∀ s', St B s' l → Q (.bool (decide (xs = ys))) s') : wpAny (model prog w) A (compareOp .Eq (.ref r) (.ref r')) Q E s := by
  refine SeqAt.compareEq_reads (reads_ilst H hm) (reads_ilst H hm') (lay_ints xs) (lay_ints ys) ?_ ?_
  · simp only [PyData.depth, depth_ints]; unfold cLine; (first | lia | omega)
  · show Q (.bool (PyData.eqvAll _ _)) s; rw [eqvAll_ints]; exact h _ H
theorem ne_ilst {Q : Value → Shared → Prop} (hu : A.units < 9000) (H : St B s l) (hm : ilst r xs ∈ l) (hm' : ilst r' ys ∈ l) (h : ∀ s', St B s' l → Q (.bool (!decide (xs = ys))) s') : wpAny (model prog w) A (compareOp .NotEq (.ref r) (.ref r')) Q E s := by
  refine SeqAt.compareNe_reads (reads_ilst H hm) (reads_ilst H hm') (lay_ints xs) (lay_ints ys) ?_ ?_
  · simp only [PyData.depth, depth_ints]; unfold cLine; (first | lia | omega)
  · show Q (.bool (!PyData.eqvAll _ _)) s; rw [eqvAll_ints]; exact h _ H
theorem ne_itup {Q : Value → Shared → Prop} (hu : A.units < 9000) (H : St B s l) (hm : itup r xs ∈ l) (hm' : itup r' ys ∈ l) (h : ∀ s', St B s' l → Q (.bool (!decide (xs = ys))) s') : wpAny (model prog w) A (compareOp .NotEq (.ref r) (.ref r')) Q E s := by
  refine SeqAt.compareNe_reads (reads_itup H hm) (reads_itup H hm') (lay_ints xs) (lay_ints ys) ?_ ?_
  · simp only [PyData.depth, depth_ints]; unfold cLine; (first | lia | omega)
  · show Q (.bool (!PyData.eqvAll _ _)) s; rw [eqvAll_ints]; exact h _ H
set_option tactic.hygienic true in
theorem itr_range_h {a : Int} {n : Nat} {it h : Addr} {cls a0 tb : Value} (hh : A.handled = some (.ref h)) : Itr prog w B A it n (riter it a n) (fun i v => ∃ t, v = .int (a + i) t) (fun l => excr h cls a0 tb ∈ l) where
  next i l s Q E hi _ H h := by
    obtain ⟨o, ho, rfl⟩ := H.head
    refine wpAny_pyNext_range_item ho (by (first | lia | omega)) fun h' hit hs => h _ _ ⟨_, rfl⟩ ?_
    have e1 : a + ((i + 1 : Nat) : Int) = a + i + 1 := by (first | lia | omega)
    have e2 : (n : Int) - ((i + 1 : Nat) : Int) = n - i - 1 := by (first | lia | omega)
    exact H.turn rfl rfl rfl (fun b o e nb => (hs.2 b nb).trans e) ⟨_, hit, by rw [e1, e2]⟩
  fin l s Q E hD H h := range_end_held hh H hD h
  self i l s Q E H h := by
    obtain ⟨o, ho, rfl⟩ := H.head
    exact wpAny_pyIter_rangeiter ho h
end
noncomputable def partI (xs : List Int) (x y : Int) : List Int := (xs.drop (clipAt xs.length x)).take (clipAt xs.length y - clipAt xs.length x)
noncomputable def SliceBoth (prog : Program) (w : World) (Q : Value → Shared → Prop) (o vl vu : Value) (s : Shared) : Prop :=
  ∃ (B : Bs) (l : List Reg) (r : Addr) (xs : List Int) (x y : Int) (t u : Nat), o = .ref r ∧ vl = .int x t ∧ vu = .int y u ∧ St B s l ∧ ilst r xs ∈ l ∧ xs.length ≤ 1000 ∧ ∀ q s', St B s' (ilst q (partI xs x y) :: l) → Q (.ref q) s'
theorem slice_both {prog : Program} {w : World} {A : Around} {E : Value → Shared → Prop} {s : Shared} {env : Env} {value lo hi : Expr} {p pos : Pos} {Q : Value → Shared → Prop}
    (h : wpAny (model prog w) A (eval value env) (fun o s₁ => wpAny (model prog w) A (eval lo env) (fun vl s₂ => wpAny (model prog w) A (eval hi env) (fun vu s₃ => SliceBoth prog w Q o vl vu s₃) E s₂) E s₁) E s) (ht : ∀ o r, letTemporaryGo value o r = pure ()) :
    wpAny (model prog w) A (eval (.Subscript value (.Slice (some lo) (some hi) none p) pos) env) Q E s := by
  refine wpAny_Subscript_list_slice (wpAny_mono h (fun o s₁ h₁ => wpAny_mono (show wpAny _ _ (evalPart (some lo) env) _ _ _ from h₁) (fun vl s₂ h₂ => wpAny_mono (show wpAny _ _ (evalPart (some hi) env) _ _ _ from h₂) (fun vu s₃ h₃ => ?_) fun _ _ e => e) fun _ _ e => e) fun _ _ e => e) ht
  obtain ⟨B, l, r, xs, x, y, t, u, rfl, rfl, rfl, H, hm, hz, hq⟩ := h₃
  obtain ⟨vs, hv, hl⟩ := ilst_is H hm
  refine ⟨r, vs.toArray, some x, some y, rfl, hl, by rw [List.size_toArray, hv.length, sizeLine_eq]; (first | lia | omega), .int x t, .int y u, hq _ _ ?_⟩
  have e : s₃.heap.objs.size + 1 = (s₃.heap.push { cls := .type "slice", data := .fields #[.int x t, .int y u, .none] }).objs.size := by rw [Heap.size_push]
  rw [e]
  have H1 : St B { s₃ with heap := s₃.heap.push { cls := .type "slice", data := .fields #[.int x t, .int y u, .none] } } l := H.same rfl rfl rfl fun _ _ q => Heap.get?_push_of_some _ q
  exact H1.new1 (o := { cls := .type "list", data := .seq (slicePick vs.toArray (some x) (some y) none) }) (p := fun o => ∃ vs n, o = PySem.W.listOf vs.toArray n ∧ IntsAre vs (partI xs x y)) rfl ⟨(slicePick vs.toArray (some x) (some y) none).toList, 0, by simp [PySem.W.listOf], slice_ints_plain hv x y⟩
end
section
open PySem PySem.W PyProof.Rows PySem.Calls PySem.Spec
structure Ent where
  m : Addr
  it : Addr
  x : Int
  p : Nat
noncomputable abbrev nodesOf (es : List Ent) : List Int := es.map (·.x)
noncomputable def Closed (succ : Nat → List Int) (fin : List Int) : Prop := ∀ i (h : i < fin.length), ∀ z ∈ succ fin[i].toNat, z ∈ fin.take i
noncomputable def ChainR (succ : Nat → List Int) : List Int → Prop
  | a :: b :: r => a ∈ succ b.toNat ∧ ChainR succ (b :: r)
  | _ => True
noncomputable def IsRing (succ : Nat → List Int) (ring : List Int) : Prop := ∃ x u, ring = (x :: u).reverse ∧ ChainR succ (x :: u) ∧ u.getLast? = some x ∧ u.Nodup ∧ ∀ y ∈ u, 0 ≤ y ∧ y < 6
noncomputable def Acyc (succ : Nat → List Int) : Prop := ∃ fin : List Int, Closed succ fin ∧ (∀ j : Nat, j < 6 → (j : Int) ∈ fin) ∧ fin.Nodup ∧ ∀ x ∈ fin, 0 ≤ x ∧ x < 6
noncomputable def Good (succ : Nat → List Int) (fin : List Int) : Option Int → List Ent → Prop
  | _, [] => True
  | none, e :: es => (∀ z ∈ (succ e.x.toNat).take e.p, z ∈ fin) ∧ e.p ≤ (succ e.x.toNat).length ∧ Good succ fin (some e.x) es
  | some x, e :: es => ∃ q, e.p = q + 1 ∧ (succ e.x.toNat)[q]? = some x ∧ (∀ z ∈ (succ e.x.toNat).take q, z ∈ fin) ∧ Good succ fin (some e.x) es
structure DInv (succ : Nat → List Int) (fin : List Int) (es : List Ent) (c : Option Int) (sn : Int → Bool) (n : Nat) : Prop where
  closed : Closed succ fin
  nd : (nodesOf es ++ fin).Nodup
  rng : ∀ x ∈ nodesOf es ++ fin, 0 ≤ x ∧ x < 6
  seen : ∀ k, sn k = true ↔ k ∈ nodesOf es ++ fin
  cnt : n = es.length + fin.length
  good : Good succ fin c es
variable {succ : Nat → List Int} {fin : List Int} {es : List Ent} {c : Option Int} {sn : Int → Bool} {n : Nat} {x : Int}
theorem Closed.snoc (h : Closed succ fin) (hx : ∀ z ∈ succ x.toNat, z ∈ fin) : Closed succ (fin ++ [x]) := by
  intro i hi z hz
  rw [List.length_append, List.length_singleton] at hi
  by_cases q : i < fin.length
  · rw [List.getElem_append_left q] at hz
    rw [List.take_append_of_le_length (Nat.le_of_lt q)]
    exact h i q z hz
  · have e : i = fin.length := by (first | lia | omega)
    subst e
    rw [List.getElem_append_right (Nat.le_refl _)] at hz
    simp only [Nat.sub_self, List.getElem_cons_zero] at hz
    rw [List.take_append_of_le_length (Nat.le_refl _), List.take_length]
    exact hx z hz
theorem Good.mono {fin' : List Int} (k : ∀ z ∈ fin, z ∈ fin') : ∀ {es : List Ent} {c : Option Int}, Good succ fin c es → Good succ fin' c es
  | [], none, _ => trivial
  | [], some _, _ => trivial
  | e :: es, none, ⟨a, b, g⟩ => ⟨fun z hz => k z (a z hz), b, g.mono k⟩
  | e :: es, some x, ⟨q, a, b, d, g⟩ => ⟨q, a, b, fun z hz => k z (d z hz), g.mono k⟩
theorem Good.chain : ∀ {es : List Ent} {x : Int}, Good succ fin (some x) es → ChainR succ (x :: nodesOf es)
  | [], _, _ => trivial
  | e :: es, x, ⟨q, a, b, d, g⟩ => ⟨List.mem_of_getElem? b, g.chain⟩
theorem ChainR.take : ∀ {u : List Int} {x : Int} (k : Nat), ChainR succ (x :: u) → ChainR succ (x :: u.take k)
  | [], x, k, h => by simpa using h
  | y :: u, x, 0, h => trivial
  | y :: u, x, k + 1, h => ⟨h.1, ChainR.take k h.2⟩
namespace DInv
theorem skip (D : DInv succ fin es (some x) sn n) (hx : x ∈ fin) : DInv succ fin es none sn n := by
  refine ⟨D.closed, D.nd, D.rng, D.seen, D.cnt, ?_⟩
  have g := D.good
  cases es with
  | nil => trivial
  | cons e es =>
    obtain ⟨q, a, b, d, g⟩ := g
    refine ⟨fun z hz => ?_, ?_, g⟩
    · obtain ⟨hq, eq⟩ := List.getElem?_eq_some_iff.mp b
      rw [a, List.take_succ_eq_append_getElem hq, List.mem_append, List.mem_singleton] at hz
      rcases hz with h | h
      · exact d z h
      · rw [h, eq]; exact hx
    · have := (List.getElem?_eq_some_iff.mp b).1; (first | lia | omega)
theorem push {m it : Addr} (D : DInv succ fin es (some x) sn n) (h0 : 0 ≤ x) (h6 : x < 6) (hx : sn x = false) : DInv succ fin (⟨m, it, x, 0⟩ :: es) none (fun k => sn k || decide (k = x)) (n + 1) := by
  have hn : x ∉ nodesOf es ++ fin := fun h => by rw [(D.seen x).mpr h] at hx; cases hx
  refine ⟨D.closed, ?_, fun y hy => ?_, fun k => ?_, by rw [D.cnt, List.length_cons]; (first | lia | omega), fun z hz => by simp at hz, Nat.zero_le _, D.good⟩
  · exact List.nodup_cons.mpr ⟨hn, D.nd⟩
  · rcases List.mem_cons.mp hy with rfl | hy
    · exact ⟨h0, h6⟩
    · exact D.rng y hy
  · show (sn k || decide (k = x)) = true ↔ k ∈ x :: (nodesOf es ++ fin)
    rw [Bool.or_eq_true, D.seen k, List.mem_cons, decide_eq_true_iff]
    exact ⟨fun h => h.symm, fun h => h.symm⟩
set_option tactic.hygienic true in
theorem next {e : Ent} (D : DInv succ fin (e :: es) none sn n) (hp : e.p < (succ e.x.toNat).length) : DInv succ fin ({ e with p := e.p + 1 } :: es) (some (succ e.x.toNat)[e.p]) sn n :=
  ⟨D.closed, D.nd, D.rng, D.seen, D.cnt, e.p, rfl, List.getElem?_eq_getElem hp, D.good.1, D.good.2.2⟩
theorem pop {e : Ent} (D : DInv succ fin (e :: es) none sn n) (hp : e.p = (succ e.x.toNat).length) : DInv succ (fin ++ [e.x]) es none sn n := by
  have g := D.good
  have hall : ∀ z ∈ succ e.x.toNat, z ∈ fin := fun z hz => g.1 z (by rw [hp, List.take_length]; exact hz)
  have perm : (nodesOf es ++ (fin ++ [e.x])).Perm (nodesOf (e :: es) ++ fin) := by
    show (nodesOf es ++ (fin ++ [e.x])).Perm (e.x :: (nodesOf es ++ fin))
    rw [← List.append_assoc]
    exact List.perm_append_singleton _ _
  have D1 : DInv succ (fin ++ [e.x]) es (some e.x) sn n :=
    ⟨D.closed.snoc hall, perm.nodup_iff.mpr D.nd, fun y hy => D.rng y (perm.mem_iff.mp hy), fun k => (D.seen k).trans perm.mem_iff.symm, by rw [D.cnt, List.length_cons, List.length_append, List.length_singleton]; (first | lia | omega), g.2.2.mono fun z hz => List.mem_append_left _ hz⟩
  exact D1.skip (by simp)
end DInv
noncomputable def unseen (succ : Nat → List Int) (sn : Int → Bool) (k : Nat) : Nat := if sn k then 0 else (succ k).length + 2
noncomputable def sumTo (f : Nat → Nat) : Nat → Nat
  | 0 => 0
  | n + 1 => sumTo f n + f n
theorem sumTo_same {f g : Nat → Nat} : ∀ n, (∀ i, i < n → f i = g i) → sumTo f n = sumTo g n
  | 0, _ => rfl
  | n + 1, h => by show sumTo f n + f n = sumTo g n + g n; rw [sumTo_same n fun i hi => h i (Nat.lt_succ_of_lt hi), h n (Nat.lt_succ_self n)]
theorem sumTo_at {f g : Nat → Nat} {k c : Nat} (h : ∀ i, i ≠ k → f i = g i) (hk : f k = g k + c) : ∀ n, k < n → sumTo f n = sumTo g n + c
  | n + 1, hn => by
    show sumTo f n + f n = sumTo g n + g n + c
    by_cases e : k = n
    · subst e; rw [sumTo_same k fun i hi => h i (Nat.ne_of_lt hi), hk, Nat.add_assoc]
    · rw [sumTo_at h hk n (Nat.lt_of_le_of_ne (Nat.le_of_lt_succ hn) e), h n fun q => e q.symm, Nat.add_right_comm]
noncomputable def work (succ : Nat → List Int) (sn : Int → Bool) : Nat := sumTo (unseen succ sn) 6
theorem lt6_nat {x : Int} (h0 : 0 ≤ x) (h6 : x < 6) : x.toNat < 6 := by (first | lia | omega)
theorem lt6_int {k : Nat} (h : k < 6) : (k : Int) < 6 := Int.ofNat_lt.mpr h
theorem nat_eq {x : Int} (h0 : 0 ≤ x) : ((x.toNat : Nat) : Int) = x := Int.toNat_of_nonneg h0
noncomputable def hold (succ : Nat → List Int) : List Ent → Nat
  | [] => 0
  | e :: es => (succ e.x.toNat).length - e.p + 1 + hold succ es
theorem work_push (h0 : 0 ≤ x) (h6 : x < 6) (hx : sn x = false) : work succ sn = work succ (fun k => sn k || decide (k = x)) + ((succ x.toNat).length + 2) := by
  refine sumTo_at (fun i hi => ?_) ?_ 6 (lt6_nat h0 h6)
  · show (if sn i then 0 else (succ i).length + 2) = if (sn i || decide ((i : Int) = x)) then 0 else (succ i).length + 2
    rw [decide_eq_false (fun e => hi (by rw [← e]; rfl)), Bool.or_false]
  · show (if sn (x.toNat : Nat) then 0 else (succ x.toNat).length + 2) = (if (sn (x.toNat : Nat) || decide (((x.toNat : Nat) : Int) = x)) then 0 else (succ x.toNat).length + 2) + ((succ x.toNat).length + 2)
    rw [nat_eq h0, hx, decide_eq_true rfl, Bool.or_true, if_neg Bool.false_ne_true, if_pos rfl, Nat.zero_add]
noncomputable def KvsOk (kvs : List (Int × Value)) (st : List Int) : Prop := kvs.length = st.length ∧ ∀ i (hi : i < st.length), ∃ t, kvs[i]? = some (st[i], Value.int i t)
theorem KvsOk.keys {kvs : List (Int × Value)} {st : List Int} (h : KvsOk kvs st) : kvs.map (·.1) = st := by
  apply List.ext_getElem
  · rw [List.length_map]; exact h.1
  · intro i h1 h2
    obtain ⟨t, ht⟩ := h.2 i h2
    obtain ⟨h3, e⟩ := List.getElem?_eq_some_iff.mp ht
    rw [List.getElem_map, e]
theorem KvsOk.none {kvs : List (Int × Value)} {st : List Int} (h : KvsOk kvs st) (hx : x ∉ st) : valueAt kvs x = none := by
  unfold valueAt
  rw [Option.map_eq_none_iff, List.find?_eq_none]
  intro y hy
  simp only [decide_eq_true_eq]
  exact fun e => hx (by rw [← h.keys, ← e]; exact List.mem_map_of_mem hy)
theorem KvsOk.get {kvs : List (Int × Value)} {st : List Int} (h : KvsOk kvs st) (hn : st.Nodup) (hx : x ∈ st) : ∃ i t, ∃ hi : i < st.length, st[i] = x ∧ valueAt kvs x = some (.int i t) := by
  obtain ⟨i, hi, e⟩ := List.mem_iff_getElem.mp hx
  obtain ⟨t, ht⟩ := h.2 i hi
  refine ⟨i, t, hi, e, ?_⟩
  unfold valueAt
  have : kvs.find? (fun kv => decide (kv.1 = x)) = some (x, .int i t) := by
    obtain ⟨h3, e3⟩ := List.getElem?_eq_some_iff.mp ht
    rw [List.find?_eq_some_iff_getElem]
    refine ⟨by simp, i, h3, by rw [e3, e], fun j hj => ?_⟩
    obtain ⟨t', ht'⟩ := h.2 j (by (first | lia | omega))
    obtain ⟨h4, e4⟩ := List.getElem?_eq_some_iff.mp ht'
    rw [e4]
    simp only [Bool.not_eq_true', decide_eq_false_iff_not]
    intro q
    exact (List.pairwise_iff_getElem.mp hn j i (by (first | lia | omega)) hi hj) (q.trans e.symm)
  rw [this]; rfl
theorem KvsOk.push {kvs : List (Int × Value)} {st : List Int} {t : Nat} (h : KvsOk kvs st) (hx : x ∉ st) : KvsOk (stored kvs x (.int st.length t)) (st ++ [x]) := by
  have e : stored kvs x (.int st.length t) = kvs ++ [(x, .int st.length t)] := by
    unfold stored
    rw [if_neg]
    rw [List.any_eq_true]
    rintro ⟨y, hy, q⟩
    exact hx (by rw [← h.keys, ← of_decide_eq_true q]; exact List.mem_map_of_mem hy)
  rw [e]
  refine ⟨by simp [h.1], fun i hi => ?_⟩
  by_cases q : i < st.length
  · obtain ⟨t', ht'⟩ := h.2 i q
    exact ⟨t', by rw [List.getElem?_append_left (by rw [h.1]; exact q), List.getElem_append_left q]; exact ht'⟩
  · have hi' : i = st.length := by simp at hi; (first | lia | omega)
    subst hi'
    exact ⟨t, by rw [List.getElem?_append_right (by rw [h.1]; exact Nat.le_refl _), h.1, List.getElem_append_right (Nat.le_refl _)]; simp⟩
theorem KvsOk.pop {kvs : List (Int × Value)} {st : List Int} {y : Int} (h : KvsOk kvs (st ++ [y])) (hn : (st ++ [y]).Nodup) : KvsOk (without kvs y) st := by
  have hl := h.1
  rw [List.length_append, List.length_singleton] at hl
  have hk := h.keys
  obtain ⟨kvs', kv, rfl⟩ : ∃ kvs' kv, kvs = kvs' ++ [kv] := by
    rcases List.eq_nil_or_concat kvs with e | ⟨a, b, e⟩
    · subst e; simp at hl
    · exact ⟨a, b, by rw [e, List.concat_eq_append]⟩
  rw [List.map_append, List.map_cons, List.map_nil] at hk
  obtain ⟨e1, e2⟩ := List.append_inj' hk rfl
  have e2 : kv.1 = y := by simpa using e2
  have hy : y ∉ st := fun hm => by
    rw [List.nodup_append] at hn
    exact hn.2.2 y hm y (by simp) rfl
  have e : without (kvs' ++ [kv]) y = kvs' := by
    unfold without
    rw [List.filter_append]
    have a1 : kvs'.filter (fun z => decide (z.1 ≠ y)) = kvs' := by
      rw [List.filter_eq_self]
      intro z hz
      rw [decide_eq_true_iff]
      exact fun q => hy (by rw [← e1, ← q]; exact List.mem_map_of_mem hz)
    have a2 : [kv].filter (fun z => decide (z.1 ≠ y)) = [] := by simp [e2]
    rw [a1, a2, List.append_nil]
  rw [e]
  have hl' : kvs'.length = st.length := by simp at hl; exact hl
  refine ⟨hl', fun i hi => ?_⟩
  obtain ⟨t, ht⟩ := h.2 i (by simp; (first | lia | omega))
  exact ⟨t, by rw [List.getElem?_append_left (by (first | lia | omega)), List.getElem_append_left hi] at ht; exact ht⟩
theorem ring_of (D : DInv succ fin es (some x) sn n) {i : Nat} (hi : i < (nodesOf es).reverse.length) (e : (nodesOf es).reverse[i] = x) : IsRing succ ((nodesOf es).reverse.drop i ++ [x]) := by
  rw [List.length_reverse] at hi
  refine ⟨x, (nodesOf es).take ((nodesOf es).length - i), ?_, D.good.chain.take _, ?_, ?_, fun y hy => D.rng y (List.mem_append_left _ (List.mem_of_mem_take hy))⟩
  · rw [List.reverse_cons, List.reverse_take]; congr 2; (first | lia | omega)
  · rw [List.getElem_reverse] at e
    rw [List.getLast?_eq_getElem?, List.length_take, Nat.min_eq_left (by (first | lia | omega)), List.getElem?_take_of_lt (by (first | lia | omega)), List.getElem?_eq_getElem (by (first | lia | omega)), ← e]
    congr 2; (first | lia | omega)
  · exact ((List.nodup_append.mp D.nd).1).sublist (List.take_sublist _ _)
end
section
open PySem PySem.W PySem.W.X PyProof.Rows PySem.Calls PySem.Spec
section
variable {M : Model} {A : Around} {c : Code} {fs : List Frame} {s : Shared} {P : End → Shared → Prop} {env : Env}
  {K : Flow → Sem Fin} {H : Value → Sem Fin} {gd : Bool → Bool} {lv : List Value → List Value}
theorem sx_wrap {α : Type} {m : Sem α} {K : α → Sem Fin} {H : Value → Sem Fin} {gd lv}
    (h : wpAny M (A.over c fs) m (fun a s' => SegX M A c (K a) fs s' P) (fun x s' => SegX M A c (H x) fs s' P) s) : SegX M A c (m.wrap K H gd lv) fs s P := by
  rintro Γ p rfl hΓ
  obtain ⟨e, s', hr, hq⟩ := runs_wrap_of_wp (Φ := fun e s' => e.quiet = true ∧ P e s') K H gd lv m (h (Γ.over fs) p (hΓ.over fs)) (fun a p' s' h' => h' Γ p' rfl hΓ) (fun x p' s' h' => h' Γ p' rfl hΓ)
  exact ⟨e, s', hr, hq⟩
theorem sx_at {p' : Pos} {k : Unit → Sem Fin} (h : SegX M A c (k ()) fs s P) : SegX M A c (.at p' k) fs s P :=
  sx_wrap (m := standAt p') (K := k) (H := .raise) (gd := id) (lv := id) (wpAny_standAt h)
theorem sx_point {l : List Value} {k : Unit → Sem Fin} (h : SegX M A c (k ()) fs s P) : SegX M A c (.point l k) fs s P :=
  sx_wrap (m := point) (K := k) (H := .raise) (gd := id) (lv := fun _ => l) (wpAny_point h)
theorem sx_call {c' : Code} {h g l} {k : Result → Sem Fin} (hc : ∀ p, SegX M A c' (M.den c') (.ret k h g l c p [] :: fs) s P) : SegX M A c (.call c' h g l k) fs s P := by
  rintro Γ p rfl hΓ
  obtain ⟨e, s', hr, he⟩ := hc p (Γ.goto c') p rfl (hΓ.goto c')
  exact ⟨e, s', runs_call_seg hr, he⟩
theorem sx_execs_nil (h : SegX M A c (K .next) fs s P) : SegX M A c ((execs [] env).wrap K H gd lv) fs s P := h
set_option tactic.hygienic true in
theorem sx_execs_cons {st : Stmt} {rest : List Stmt}
    (h : SegX M A c ((exec st env).wrap (fun f => match f with | .next => (execs rest env).wrap K H gd lv | f => K f) H gd lv) fs s P) :
    SegX M A c ((execs (st :: rest) env).wrap K H gd lv) fs s P := by rw [execs_cons_wrap]; exact h
theorem sx_While {test : Expr} {body orelse : List Stmt} {pos : Pos}
    (h : ∀ p, SegX M A (.whileLoop test body orelse env) (M.den (.whileLoop test body orelse env))
      (.ret (fun r => ((match r with | .ok f => (.pure f : Sem Flow) | .error e => .raise e).onRaise fun (x : Value) => do
        if (← field x 1) == Value.none then unsupported "frame.own-activation:exception-without-traceback"
        setFlight x env.frame).wrap K H gd lv) none (gd false) (lv []) c p [] :: fs) s P) :
    SegX M A c ((exec (.While test body orelse pos) env).wrap K H gd lv) fs s P :=
  sx_at (sx_call h)
end
end
section
open PySem PySem.W PySem.W.X PyProof.Rows PySem.Calls PySem.Spec
section
variable {prog : Program} {w : World} {A : Around} {c : Code} {fs : List Frame} {s : Shared} {P : End → Shared → Prop} {env : Env}
  {K : Flow → Sem Fin} {H : Value → Sem Fin} {gd : Bool → Bool} {lv : List Value → List Value}
theorem sx_bind {α : Type} {m : Sem α} {K : α → Sem Fin}
    (h : wpAny (model prog w) (A.over c fs) m (fun a s' => SegX (model prog w) A c (K a) fs s' P) (fun x s' => SegX (model prog w) A c (.raise x) fs s' P) s) : SegX (model prog w) A c (m >>= K) fs s P := by
  rw [Sem.bind_eq_wrap']; exact sx_wrap h
set_option tactic.hygienic true in
theorem sx_stmt {st : Stmt} {rest : List Stmt}
    (h : wpAny (model prog w) (A.over c fs) (exec st env) (fun f s' => SegX (model prog w) A c (match f with | .next => (execs rest env).wrap K H gd lv | f => K f) fs s' P) (fun _ _ => False) s) :
    SegX (model prog w) A c ((execs (st :: rest) env).wrap K H gd lv) fs s P :=
  sx_execs_cons (sx_wrap (wpAny_mono h (fun f s' x => by cases f <;> exact x) fun _ _ x => x.elim))
set_option tactic.hygienic true in
theorem sx_whileLoop {test : Expr} {body orelse : List Stmt}
    (h : wpAny (model prog w) (A.over (.whileLoop test body orelse env) fs) (isTrue test env (eval test env)) (fun b s' =>
        if b = true then
          ∀ H', SegX (model prog w) A (.whileLoop test body orelse env) ((execs body env).wrap (fun f => match f with
            | .next | .cont => .pure (.again (.whileLoop test body orelse env))
            | .brk => .pure (.done .next)
            | .ret v => .pure (.done (.ret v))) H' id id) fs s' P
        else ∀ H', SegX (model prog w) A (.whileLoop test body orelse env) ((execs orelse env).wrap (fun f => .pure (.done f)) H' id id) fs s' P)
      (fun _ _ => False) s) :
    SegX (model prog w) A (.whileLoop test body orelse env) ((model prog w).den (.whileLoop test body orelse env)) fs s P := by
  show SegX _ A _ ((whileTurn test body orelse env).onRaise (fun x => do noteFrame x env; theTreesLotGoes x)) fs s P
  unfold whileTurn
  rw [Sem.onRaise_eq_wrap, Sem.bind_eq_wrap', Sem.wrap_wrap]
  refine sx_wrap (wpAny_mono h (fun b s' hb => ?_) fun x s' hx => hx.elim)
  cases b with
  | true =>
    rw [if_pos rfl] at hb
    show SegX _ A _ (Sem.wrap _ _ _ _ (if true = true then _ else _)) fs s' P
    rw [if_pos rfl, Sem.bind_eq_wrap', Sem.wrap_wrap]
    refine (Eq.mpr (congrArg (fun t => SegX (model prog w) A _ t fs s' P) (Sem.wrap_congr (execs body env) _ _ (K' := fun f => match f with
          | .next | .cont => .pure (.again (.whileLoop test body orelse env))
          | .brk => .pure (.done .next)
          | .ret v => .pure (.done (.ret v)))
      (fun f => by cases f <;> rfl)
      (fun e => rfl))) (hb _))
  | false =>
    rw [if_neg Bool.false_ne_true] at hb
    show SegX _ A _ (Sem.wrap _ _ _ _ (if false = true then _ else _)) fs s' P
    rw [if_neg Bool.false_ne_true, Sem.bind_eq_wrap', Sem.wrap_wrap]
    exact hb _
theorem sx_func {body : List Stmt}
    (h : ∀ H', SegX (model prog w) A (.func body env) ((execs body env).wrap (fun f => .pure (.done (.ret (match f with | .ret v => v | _ => .none)))) H' id id) fs s P) :
    SegX (model prog w) A (.func body env) ((model prog w).den (.func body env)) fs s P := by
  show SegX _ A _ (.point [] fun _ => ((execs body env).onRaise (leaving env)) >>= _) fs s P
  refine sx_point ?_
  rw [Sem.onRaise_eq_wrap, Sem.bind_eq_wrap', Sem.wrap_wrap]
  refine (Eq.mpr (congrArg (fun t => SegX (model prog w) A _ t fs s P) (Sem.wrap_congr (execs body env) _ _ (K' := fun f => .pure (.done (.ret (match f with | .ret v => v | _ => .none))))
    (fun f => by cases f <;> rfl) (fun e => rfl))) (h _))

theorem sx_YieldFrom {e : Expr} {ypos pos : Pos} (hi : interactive env = false)
    (h : wpAny (model prog w) (A.over c fs) (eval e env) (fun v s' => ∃ t xs B l, v = .ref t ∧ St B s' l ∧ itup t xs ∈ l ∧ ∀ it s'' k p, (k (.ok (.ret .none)) = K .next) → St B s'' (titer it t 0 :: l) →
        SegX (model prog w) A (.builtin "proto.yield_from" ⟨[.ref it, .bool false, .none], []⟩) (denote table (.builtin "proto.yield_from" ⟨[.ref it, .bool false, .none], []⟩)) (.ret k none (gd false) (lv []) c p [] :: fs) s'' P) (fun _ _ => False) s) :
    SegX (model prog w) A c ((exec (.Expr (.YieldFrom e ypos) pos) env).wrap K H gd lv) fs s P := by
  rw [exec_Expr env (.YieldFrom e ypos) pos hi rfl, arm_eval_YieldFrom]
  show SegX _ A c (.at pos fun _ => ((eval e env >>= fun v => (standAt ypos >>= fun _ => yieldFrom env v)) >>= fun x => dropValue (.YieldFrom e ypos) pos x).wrap K H gd lv) fs s P
  refine sx_at ?_
  rw [Sem.bind_eq_wrap', Sem.bind_eq_wrap', Sem.wrap_wrap, Sem.wrap_wrap]
  refine sx_wrap (wpAny_mono h (fun v s' h' => ?_) fun _ _ x => x.elim)
  obtain ⟨t, xs, B, l, rfl, Hs, hm, h2⟩ := h'
  refine sx_at ?_
  obtain ⟨vs, hv, o, ho, hc, hd⟩ := itup_is Hs hm
  show SegX _ A c ((typeOf (.ref t) >>= fun ty => _).wrap _ _ _ _) fs s' P
  rw [Sem.bind_eq_wrap', Sem.wrap_wrap]
  refine sx_wrap (wpAny_typeOf (s := s') ⟨o, ho, hc⟩ ?_)
  show SegX _ A c ((if (Value.type "tuple" == Value.type "coroutine") = true then _ else _ : Sem Value).wrap _ _ _ _) fs s' P
  rw [if_neg (by decide)]
  show SegX _ A c ((holding [.ref t] (pyIter (.ref t)) >>= fun it => _).wrap _ _ _ _) fs s' P
  rw [Sem.bind_eq_wrap', Sem.wrap_wrap]
  refine sx_wrap (wpAny_holding (iter_itup Hs hm ?_))
  intro it s'' H2
  refine sx_call fun p => ?_
  exact h2 it s'' _ p rfl H2
end
end
section
open PySem PySem.W PySem.W.X PyProof.Rows PySem.Calls PySem.Spec
theorem entry_yf : entryFor table "proto.yield_from" = some Builtin.«proto.yield_from» := entryFor_of_fast (by kernel_rfl)
theorem ti_no_close : typeLookup (.type "tuple_iterator") "close" = pure none := by rw [typeLookup_type, builtinLookup_eq_fast]; kernel_rfl
section
variable {prog : Program} {w : World} {A : Around} {c : Code} {fs : List Frame} {s : Shared} {P : End → Shared → Prop} {B : Bs} {l : List Reg} {it t : Addr} {xs : List Int} {i : Nat}
noncomputable def yfc (it : Addr) : Code := .builtin "proto.yield_from" ⟨[.ref it, .bool false, .none], []⟩
theorem slept_ti {Q : Unit → Shared → Prop} {E : Value → Shared → Prop} {b : Bool} (H : St B s (titer it t i :: l)) (h : Q () s) : wpAny (model prog w) A (Builtin.Generator.sleptOver (.ref it) b) Q E s := by
  obtain ⟨o, ho, hc, hd⟩ := H.head
  show wpAny _ _ (load it >>= fun o => _) _ _ _
  refine wpAny_bind (wpAny_load ho ?_)
  dsimp only
  rw [hc]
  exact wpAny_pure h
theorem yf_den : denote table (yfc it) = Builtin.«proto.yield_from» ⟨[.ref it, .bool false, .none], []⟩ := by
  show (match entryFor table "proto.yield_from" with | some b => b ⟨[.ref it, .bool false, .none], []⟩ | none => unsupported ((withoutEnding? "proto.yield_from" "#data").getD "proto.yield_from")) = _
  rw [entry_yf]
set_option tactic.hygienic true in
theorem yf_item (H : St B s (titer it t i :: l)) (hm : itup t xs ∈ l) (hlt : i < xs.length) (hfs : splitAtGen fs = none) (hfg : fs.any Frame.guarded = false)
    (h : ∀ tk k p s', St B s' (titer it t (i + 1) :: l) →
      (∀ (A' : Around) P' B' s'' l', St B' s'' (titer it t (i + 1) :: l') → SegX (model prog w) A' (yfc it) (denote table (yfc it)) fs s'' P' → SegX (model prog w) A' (yfc it) (k (.send .none)) fs s'' P') →
      P (.susp (.int xs[i] tk) false [] k (yfc it) p fs) s') :
    SegX (model prog w) A (yfc it) (denote table (yfc it)) fs s P := by
  obtain ⟨vs, hv, ol, hol, _, nl, hdl⟩ := itup_is H (.tail _ hm)
  obtain ⟨o, ho, hc, hd⟩ := id H.head
  have hT : s.TypeIs (.ref it) "tuple_iterator" := ⟨o, ho, hc⟩
  obtain ⟨tk, ht⟩ := ints_at hv i hlt
  have hx : vs.toArray[i]? = some (.int xs[i] tk) := by simpa using ht
  rw [yf_den]
  refine sx_bind (wpAny_pure ?_)
  refine sx_bind (wpAny_attempt (wpAny_holding ?_))
  show wpAny _ _ (rule "yield-from.next" >>= fun _ => callSpecial? (.ref it) "__next__" >>= fun r => _) _ _ _
  refine wpAny_bind (wpAny_rule (wpAny_bind ?_))
  refine wpAny_callSpecial?_slot (name := Str.ofString "__next__") hT F.slot_tuple_iterator_next
    (wpAny_call_entry F.slot_tuple_iterator_next hT F.entry_tuple_iterator_next ?_ (F.args_tuple_iterator_next_1 _))
  show wpAny _ _ (field (.ref it) 0 >>= _) _ _ s
  refine wpAny_bind (wpAny_field ho hd (x := .ref t) rfl ?_)
  show wpAny _ _ (if (Value.ref t == Value.none) = true then _ else _) _ _ s
  rw [if_neg (show ¬ ((Value.ref t == Value.none) = true) from Bool.false_ne_true)]
  show wpAny _ _ (field (.ref it) 1 >>= _) _ _ s
  refine wpAny_bind (wpAny_field ho hd (x := .int i 0) rfl ?_)
  show wpAny _ _ (seqItems? (.ref t) >>= _) _ _ s
  refine wpAny_bind (wpAny_seqItems hol hdl ?_)
  simp only [Int.toNat_natCast, hx]
  refine wpAny_bind (wpAny_setField ho hd (by simp) (wpAny_pure ⟨.int xs[i] tk, rfl, wpAny_pure ?_⟩))
  have H3 : St B { s with heap := s.heap.update it (Obj.mapFields fun x => x.setIfInBounds 1 (rawInt ((i : Int) + 1))) } (titer it t (i + 1) :: l) := H.upd (p' := fun o => o.cls = .type "tuple_iterator" ∧ o.data = .fields #[.ref t, .int (i + 1 : Nat) 0]) (f := Obj.mapFields (·.set! 1 (rawInt ((i : Int) + 1)))) (fun o ⟨h1, h2⟩ => ⟨⟨(Obj.cls_mapFields ..).trans h1, by
    rw [Obj.data_mapFields h2]; simp [rawInt]⟩, Obj.isFreed_of_fields (Obj.data_mapFields h2 _)⟩) s.toks
  generalize s.heap.update it (Obj.mapFields fun x => x.setIfInBounds 1 (rawInt ((i : Int) + 1))) = h₂ at H3 ⊢
  revert H3
  generalize ({ s with heap := h₂ } : Shared) = s₂
  intro H3
  obtain ⟨o3, ho3, hc3, hd3⟩ := id H3.head
  have hT3 : s₂.TypeIs (.ref it) "tuple_iterator" := ⟨o3, ho3, hc3⟩
  refine sx_bind (wpAny_typeOf hT3 ?_)
  dsimp only
  rw [ti_no_close]
  refine sx_bind (wpAny_pure ?_)
  refine sx_bind (wpAny_pure ?_)
  refine sx_bind (slept_ti H3 ?_)
  show SegX _ A _ (.yield (.int xs[i] tk) false [] _) fs s₂ P
  refine X.s_yield prog w A _ fs P s₂ _ _ _ hfs hfg fun p => ?_
  refine h tk _ p s₂ H3 fun A' P' B' s'' l' H4 hx4 => ?_
  show SegX _ A' _ (Builtin.Generator.sleptOver (.ref it) false >>= fun _ => _) fs s'' P'
  refine sx_bind (slept_ti H4 ?_)
  refine sx_bind (wpAny_pure ?_)
  exact X.s_again prog w A' _ fs P' s'' (yfc it) (plainId_quiet (by decide +kernel) _) hx4
set_option tactic.hygienic true in
theorem yf_end (H : St B s (titer it t xs.length :: l)) (hm : itup t xs ∈ l) (hh : (A.over (yfc it) fs).handled = none)
    (h : ∀ s', St B s' l → SegX (model prog w) A (yfc it) (.pure (.done (.ret .none))) fs s' P) :
    SegX (model prog w) A (yfc it) (denote table (yfc it)) fs s P := by
  obtain ⟨vs, hv, ol, hol, _, nl, hdl⟩ := itup_is H (.tail _ hm)
  obtain ⟨o, ho, hc, hd⟩ := id H.head
  have hT : s.TypeIs (.ref it) "tuple_iterator" := ⟨o, ho, hc⟩
  have hx : vs.toArray[xs.length]? = none := by simp [ints_len hv]
  rw [yf_den]
  refine sx_bind (wpAny_pure ?_)
  refine sx_bind (wpAny_attempt (wpAny_holding ?_))
  show wpAny _ _ (rule "yield-from.next" >>= fun _ => callSpecial? (.ref it) "__next__" >>= fun r => _) _ _ _
  refine wpAny_bind (wpAny_rule (wpAny_bind ?_))
  refine wpAny_callSpecial?_slot (name := Str.ofString "__next__") hT F.slot_tuple_iterator_next
    (wpAny_call_entry F.slot_tuple_iterator_next hT F.entry_tuple_iterator_next ?_ (F.args_tuple_iterator_next_1 _))
  show wpAny _ _ (field (.ref it) 0 >>= _) _ _ s
  refine wpAny_bind (wpAny_field ho hd (x := .ref t) rfl ?_)
  show wpAny _ _ (if (Value.ref t == Value.none) = true then _ else _) _ _ s
  rw [if_neg (show ¬ ((Value.ref t == Value.none) = true) from Bool.false_ne_true)]
  show wpAny _ _ (field (.ref it) 1 >>= _) _ _ s
  refine wpAny_bind (wpAny_field ho hd (x := .int xs.length 0) rfl ?_)
  show wpAny _ _ (seqItems? (.ref t) >>= _) _ _ s
  refine wpAny_bind (wpAny_seqItems hol hdl ?_)
  simp only [Int.toNat_natCast, hx]
  refine wpAny_bind (wpAny_rule (wpAny_bind (wpAny_setField ho hd (by simp) ?_)))
  have H2 : St B { s with heap := s.heap.update it (Obj.mapFields fun x => x.setIfInBounds 0 Value.none) } l := (H.upd (p' := fun o => True) (f := Obj.mapFields (·.set! 0 .none)) (fun o ⟨h1, h2⟩ => ⟨trivial, Obj.isFreed_of_fields (Obj.data_mapFields h2 _)⟩) s.toks).tail
  show wpAny _ _ (newExc (.type "StopIteration") [] >>= _) _ _ _
  refine wpAny_bind ?_
  simp only [newExc, newTuple]
  refine wpAny_bind (wpAny_newObj_type ?_ (by size_fits))
  refine wpAny_bind (m := firstArgMember _ _) (wpAny_of_eq (a := Value.none) (by first | rfl | (simp only [firstArgMember]; rfl)) ?_)
  refine wpAny_newObj_type ?_ (by size_fits)
  simp only [raiseNew]
  refine wpAny_bind (wpAny_handled ?_)
  rw [show ((A.over (yfc it) fs).in1).handled = none from hh]
  refine wpAny_bind (wpAny_pure (wpAny_throw ?_))
  generalize s.heap.update it (Obj.mapFields fun x => x.setIfInBounds 0 Value.none) = h₂ at H2 ⊢
  have hX : ((h₂.push { cls := .type "tuple", data := .seq #[] }).push { cls := Value.type "StopIteration", data := Data.fields (#[Value.ref h₂.objs.size, Value.none, Value.none, Value.none, Value.bool false, Value.none] ++ ownMembersOf (Value.type "StopIteration") []) }).get? (h₂.push { cls := .type "tuple", data := .seq #[] }).objs.size
      = some { cls := Value.type "StopIteration", data := Data.fields (#[Value.ref h₂.objs.size, Value.none, Value.none, Value.none, Value.bool false, Value.none] ++ ownMembersOf (Value.type "StopIteration") []) } := Heap.get?_push_size _ rfl
  have H3 : St B { s with heap := ((h₂.push { cls := .type "tuple", data := .seq #[] }).push { cls := Value.type "StopIteration", data := Data.fields (#[Value.ref h₂.objs.size, Value.none, Value.none, Value.none, Value.bool false, Value.none] ++ ownMembersOf (Value.type "StopIteration") []) }) } l :=
    H2.same rfl rfl rfl fun a o e => Heap.get?_push_of_some _ (Heap.get?_push_of_some _ e)
  generalize (h₂.push { cls := .type "tuple", data := .seq #[] }).objs.size = e at hX H3 ⊢
  refine sx_bind ?_
  refine wpAny_bind (m := Builtin.Generator.isStopAndMetaclass (.ref e)) ?_
  unfold Builtin.Generator.isStopAndMetaclass
  refine wpAny_bind (wpAny_typeOf (T := "StopIteration") ⟨_, hX, rfl⟩ ?_)
  dsimp only
  rw [isSubtype_stop]
  refine wpAny_bind (wpAny_pure ?_)
  refine wpAny_bind (wpAny_of_eq (a := .type "type") (by kernel_rfl) (wpAny_pure ?_))
  dsimp only
  rw [if_neg Bool.false_ne_true]
  refine wpAny_pure ?_
  rw [if_pos rfl, if_neg Bool.false_ne_true]
  refine sx_bind (wpAny_rule ?_)
  refine sx_bind (wpAny_field hX rfl (x := .none) rfl ?_)
  exact h _ H3
end
end
section
open PySem PySem.W PySem.W.X PyProof.Rows PySem.Calls PySem.Spec
structure Ok (w : World) (A : Around) (E0 : List Env) (lc : List Reg) (B : Bs) : Prop where
  d : A.depth < 800
  h : A.handled = none
  f : A.frames = some E0
  l : FrL E0 lc
  g : Gd (hd.heap_39 w.params) B.g
noncomputable def PostG (w : World) : List Int → Bs → List Reg → End → Shared → Prop
  | [], B, lc => fun e s' => e = .ret (.ok (.ret .none)) ∧ St B s' lc
  | x :: out, B, lc => fun e s' => ∃ tk l k p c' fs' lg', e = .susp (.int x tk) false l k c' p fs' ∧ fs'.any Frame.guarded = false ∧ St B s' (lg' ++ lc) ∧
      (∀ A E0 B s lc, Ok w A E0 lc B → St B s (lg' ++ lc) → SegX (model PySem.Challenge.pw_xc0002_01 w) A c' (k (.send .none)) fs' s (PostG w out B lc))
noncomputable def Goes (w : World) (out : List Int) (lg : List Reg) (c : Code) (t : Sem Fin) (fs : List Frame) : Prop :=
  ∀ A E0 B s lc, Ok w A E0 lc B → St B s (lg ++ lc) → SegX (model PySem.Challenge.pw_xc0002_01 w) A c t fs s (PostG w out B lc)
noncomputable abbrev outed (np : Nat → Int) (rdy : List Int) : Nat → Int := fun k => if (k : Int) ∈ rdy then -1 else np k
inductive Kr (succ : Nat → List Int) : (Nat → Int) → List Int → List Int → Prop
  | nil {np : Nat → Int} : Kr succ np [] []
  | cons {np : Nat → Int} {rdy out : List Int} (hne : rdy ≠ []) (hz : rdy.length ≤ 50) (hx : ∀ x ∈ rdy, 0 ≤ x ∧ x < 6)
    (hpre : ∀ i (hi : i < rdy.length), ((rdy.take i).foldl (doneOne succ) (outed np rdy, [])).1 rdy[i].toNat = -1)
    (h : Kr succ (rdy.foldl (doneOne succ) (outed np rdy, [])).1 (rdy.foldl (doneOne succ) (outed np rdy, [])).2 out) : Kr succ np rdy (rdy ++ out)
section
variable {w : World}
theorem yf_goes {fs : List Frame} {rdy out : List Int} {it t : Addr} {lg : List Reg} (hm : itup t rdy ∈ lg) (hfs : splitAtGen fs = none) (hfg : fs.any Frame.guarded = false)
    (hmk : ∀ A : Around, A.handled = none → (A.over (yfc it) fs).handled = none)
    (fin : ∀ A E0 B s lc, Ok w A E0 lc B → St B s (lg ++ lc) → SegX (model PySem.Challenge.pw_xc0002_01 w) A (yfc it) (.pure (.done (.ret .none))) fs s (PostG w out B lc)) :
    ∀ n i, i + n = rdy.length → Goes w (rdy.drop i ++ out) (titer it t i :: lg) (yfc it) (denote table (yfc it)) fs := by
  intro n
  induction n with
  | zero =>
    rintro i hi A E0 B s lc O H
    have e : i = rdy.length := by (first | lia | omega)
    subst e
    rw [List.drop_length, List.nil_append]
    exact yf_end H (List.mem_append_left _ hm) (hmk A O.h) fun s' H' => fin A E0 B s' lc O H'
  | succ n ih =>
    rintro i hi A E0 B s lc O H
    have hlt : i < rdy.length := by (first | lia | omega)
    rw [List.drop_eq_getElem_cons hlt, List.cons_append]
    refine yf_item H (List.mem_append_left _ hm) hlt hfs hfg fun tk k p s' H' hk => ?_
    refine ⟨tk, _, k, p, _, fs, titer it t (i + 1) :: lg, rfl, hfg, H', fun A' E0' B' s'' lc' O' H'' => ?_⟩
    exact hk A' _ B' s'' (lg ++ lc') H'' (ih (i + 1) (by (first | lia | omega)) A' E0' B' s'' lc' O' H'')
theorem so_loop {succ : Nat → List Int} {cw : Code} {fs : List Frame} (I : (Nat → Int) → List Int → List Reg → Prop)
    (turn : ∀ np rdy out lg, I np rdy lg → ((rdy = [] ∧ out = []) ∨
        (rdy ≠ [] ∧ rdy.length ≤ 50 ∧ (∀ x ∈ rdy, 0 ≤ x ∧ x < 6) ∧ (∀ i (hi : i < rdy.length), ((rdy.take i).foldl (doneOne succ) (outed np rdy, [])).1 rdy[i].toNat = -1) ∧ ∃ out', out = rdy ++ out' ∧
          ∀ lg', I (rdy.foldl (doneOne succ) (outed np rdy, [])).1 (rdy.foldl (doneOne succ) (outed np rdy, [])).2 lg' → Goes w out' lg' cw (denote table cw) fs)) → Goes w out lg cw (denote table cw) fs) :
    ∀ {np rdy out}, Kr succ np rdy out → ∀ lg, I np rdy lg → Goes w out lg cw (denote table cw) fs := by
  intro np rdy out hk
  induction hk with
  | nil => exact fun lg hI => turn _ _ _ lg hI (.inl ⟨rfl, rfl⟩)
  | cons hne hz hx hpre h ih => exact fun lg hI => turn _ _ _ lg hI (.inr ⟨hne, hz, hx, hpre, _, rfl, ih⟩)
end
end
section
open PySem PySem.W PySem.W.X PyProof.Rows PySem.Calls PySem.Spec
noncomputable def genr (a : Addr) (g : Nat) : Reg := cell a (fun o => ∃ nm qn, o.cls = .type "generator" ∧ o.data = .fields #[.int g 0, nm, qn] ∧ o.slots = #[])
noncomputable def Bs.gen (B : Bs) (gs : Array GenState) : Bs := { B with gens := gs }
theorem St.gens {B : Bs} {s : Shared} {l : List Reg} (H : St B s l) (gs : Array GenState) : St (B.gen gs) { s with gens := gs } l := ⟨rfl, H.dr, H.os, H.keep, H.regs, H.off, H.sep⟩
noncomputable def GS (B B' : Bs) : Prop := B'.g = B.g ∧ B'.os = B.os ∧ (AllBare B.gens → AllBare B'.gens)
theorem GS.trans {B B' B'' : Bs} (h : GS B B') (k : GS B' B'') : GS B B'' := ⟨k.1.trans h.1, k.2.1.trans h.2.1, fun x => k.2.2 (h.2.2 x)⟩
theorem bare_set {a : Array GenState} {i : Nat} {y : GenState} (h : AllBare a) (hy : y.bare = true) : AllBare (a.setIfInBounds i y) := fun x hx => by
  rcases Array.mem_or_eq_of_mem_setIfInBounds hx with h' | rfl
  · exact h x h'
  · exact hy
theorem sl_gen {prog : Program} {w : World} {A : Around} {s : Shared} {B : Bs} {l : List Reg} {K : Frag}
    {R : Result → Shared → Prop} {name qual : Str} {params : Arguments} {body : List Stmt} {scope : Scope} {dV kV doc pm cdv ct oc : Value} {an od : Option Addr} {osl : Array (Option Value)} {f : Addr} {args : Args} {binds : List (Str × Value)}
    (H : St B s l) (G : Gd K B.g)
    (ho : K.lookup f = some ⟨oc, od, .func (fnOf name qual params body scope dV kV doc pm an cdv ct), osl⟩) (hcd : codeIn K cdv qual = true) (hroom : A.depth < recursionLimit)
    (hbind : BindsTo s (fnOf name qual params body scope dV kV doc pm an cdv ct) args binds) (hloc : ∀ y ∈ binds, scope.names.lookup y.1 = some .local)
    {fs : List (Str × Value)} (hfs : binds.reverse = fs) (h : ∀ L a s', St (B.gen (B.gens.push (.fresh (.func body (envOf qual scope L f cdv))))) s' (genr a B.gens.size :: frame L fs :: l) → R (.ok (.ret (.ref a))) s')
    (hco : scope.isCoroutine = false) (hgen : scope.isGenerator = true) (hk : scope.kind = .function)
    (hcell : ∀ x ∈ scope.names, x.2 ≠ .cell) : codeAny (model prog w) A (.call (.ref f) args) R s := by
  subst hfs
  have X := H.kin G
  refine codeAny_call_generator (fd := fnOf name qual params body scope dV kV doc pm an cdv ct) (body := body) hroom (X _ _ ho) rfl hco hgen rfl (codeRec_of X hcd) (hbind _ _ _ _ ?_)
  refine wpAny_newFunctionEnv hcell hloc (fun h₁ hns hsb => ⟨(G.lim.keeps H.keep).fresh _ hsb, ?_⟩) hk
  have hk₁ : ∀ b o, s.heap.get? b = some o → h₁.get? b = some o := fun b o e => hsb.extBut b o (Nat.ne_of_lt (Heap.lt_size e)) (Heap.get?_push_of_some _ e)
  have H1 : St B { s with heap := h₁, toks := s.toks + binds.length } (frame s.heap.objs.size binds.reverse :: l) := by
    refine H.add rfl rfl rfl (fun a o e => hk₁ a o e) ⟨_, hns, fun _ _ e => e⟩ fun a ha => ?_
    rw [List.mem_singleton.mp ha]
    cases q : s.heap.get? s.heap.objs.size with
    | none => rfl
    | some o' => exact absurd (Heap.lt_size q) (Nat.lt_irrefl _)
  have H2 := H1.push (o := { cls := .type "generator", data := .fields #[.int s.gens.size 0, .str name (s.toks + binds.length), .str qual (s.toks + binds.length + 1)] }) (p := fun o => ∃ nm qn, o.cls = .type "generator" ∧ o.data = .fields #[.int B.gens.size 0, nm, qn] ∧ o.slots = #[]) rfl ⟨_, _, rfl, by rw [H.ge], rfl⟩ (s.toks + binds.length + 1 + 1)
  have H3 := H2.gens (s.gens.push (.fresh (.func body (envOf qual scope s.heap.objs.size f cdv))))
  rw [H.ge] at H3
  have H4 := h s.heap.objs.size _ _ H3
  rw [← H.ge] at H4
  exact H4
section
variable {w : World} {A : Around} {E : Value → Shared → Prop} {s : Shared} {B : Bs} {l lg : List Reg} {a : Addr} {g : Nat} {gs : GenState} {out : List Int} {E0 : List Env}
theorem two_status {P : GenStatus → Prop} (h : P .fresh) (k : P .fresh → P .suspended) (st : GenStatus) (e : st = .fresh ∨ st = .suspended) : P st := by
  rcases e with rfl | rfl
  · exact h
  · exact k h
set_option tactic.hygienic true in
theorem next_gen0 {Q : Option Value → Shared → Prop} {c₀ : Code} {t₀ : Sem Fin} {fs₀ : List Frame} (H : St B s (genr a g :: lg ++ l)) (O : Ok w A.in1 E0 (genr a g :: l) B) (hroom : A.depth < recursionLimit) (hg : B.gens[g]? = some gs)
    (hgs' : (gs = .fresh c₀ ∧ t₀ = denote table c₀ ∧ fs₀ = []) ∨ ∃ k₀ l₀ p₀ cl, gs = .suspended k₀ l₀ c₀ p₀ fs₀ cl ∧ t₀ = k₀ (.send .none)) (hGo : Goes w out lg c₀ t₀ fs₀)
    (hend : ∀ s' B', GS B B' → out = [] → St B' s' (genr a g :: l) → Q none s')
    (hitem : ∀ x out' tk lg' gs' s' B' k l₁ c' p fs' cl, GS B B' → out = x :: out' → B'.gens[g]? = some gs' → gs' = .suspended k l₁ c' p fs' cl → Goes w out' lg' c' (k (.send .none)) fs' → St B' s' (genr a g :: lg' ++ l) → Q (some (.int x tk)) s') :
    wpAny (model PySem.Challenge.pw_xc0002_01 w) A (pyNext (.ref a)) Q E s := by
  obtain ⟨o, ho, nm, qn, hc, hd, hsl⟩ := H.head
  have hIs : s.heap.IsGen a g := ⟨o, nm, qn, ho, hc, hd, hsl⟩
  have hgs : s.gens[g]? = some gs := by rw [H.ge]; exact hg
  have hlt : g < s.gens.size := (Array.getElem?_eq_some_iff.mp hgs).1
  have Hr : St (B.gen (s.setGen g .running).gens) (s.setGen g .running) (lg ++ (genr a g :: l)) := St.perm (H.gens _) List.perm_middle.symm
  have O' : Ok w A.in1 E0 (genr a g :: l) (B.gen (s.setGen g .running).gens) := ⟨O.d, O.h, O.f, O.l, O.g⟩
  have hl : s.heap.NoLimit := O.g.lim.keeps H.keep
  have X1 := hGo _ _ _ _ _ O' Hr
  unfold pyNext
  refine wpAny_bind (wpAny_attempt (wpAny_callSpecial?_slot (name := Str.ofString "__next__") hIs.typeIs slot_gen_next
    (wpAny_call_entry slot_gen_next hIs.typeIs entry_gen_next ?_ (args_gen_next _))))
  show wpAny _ _ (Builtin.Generator.genWake (.ref a) (.send .none)) _ _ s
  unfold Builtin.Generator.genWake
  refine wpAny_bind (wpAny_holding (wpAny_genNumber hIs (wpAny_bind (wpAny_genState hgs ?_))))
  have hwk : (gs = .fresh c₀ ∧ Resume.send .none = .send .none ∧ t₀ = denote table c₀ ∧ fs₀ = []) ∨ (∃ k₀ l₀ p₀ cl, gs = .suspended k₀ l₀ c₀ p₀ fs₀ cl ∧ t₀ = k₀ (.send .none)) := by
    rcases hgs' with ⟨x, y, z⟩ | h
    · exact .inl ⟨x, rfl, y, z⟩
    · exact .inr h
  have hst : gs.status = .fresh ∨ gs.status = .suspended := by
    rcases hgs' with ⟨e, _⟩ | ⟨_, _, _, _, e, _⟩
    · rw [e]; exact .inl rfl
    · rw [e]; exact .inr rfl
  generalize gs.status = st at hst ⊢
  revert st
  refine two_status ?_ fun h => h
  refine wpAny_bind (wpAny_roomToWake hl hroom ?_)
  refine fun Γ p hΓ => X.wake_any _ PySem.Challenge.pw_xc0002_01 w (A := A.in1) (g := g) hgs hwk (fun Γ => Γ.In A.in1) (fun _ h => h) ?_ Γ p hΓ
  refine X1.mono fun e s₁ hP => ?_
  cases out with
  | nil =>
    obtain ⟨rfl, H1⟩ := hP
    have H2 : St ((B.gen (s.setGen g .running).gens).gen (s₁.setGen g .finished).gens) (s₁.setGen g .finished) (genr a g :: l) := H1.gens _
    show wpAny (model PySem.Challenge.pw_xc0002_01 w) A.in1 (newExc (.type "StopIteration") [] >>= _) _ _ (s₁.setGen g .finished)
    refine wpAny_bind ?_
    simp only [newExc, newTuple]
    refine wpAny_bind (wpAny_newObj_type ?_ (by size_fits))
    refine wpAny_bind (m := firstArgMember _ _) (wpAny_of_eq (a := Value.none) (by first | rfl | (simp only [firstArgMember]; rfl)) ?_)
    refine wpAny_newObj_type ?_ (by size_fits)
    simp only [raiseNew]
    refine wpAny_bind (wpAny_bind (wpAny_handled ?_))
    rw [show A.in1.handled = none from O.h]
    refine wpAny_throw ?_
    refine wpAny_bind (wpAny_isInstance (T := "StopIteration") (b := true) ⟨_, Heap.get?_push_size _ rfl, rfl⟩ isSubtype_stop ?_)
    refine wpAny_pure (hend _ ((B.gen (s.setGen g .running).gens).gen (s₁.setGen g .finished).gens) ⟨rfl, rfl, fun hb => ?_⟩ rfl ?_)
    · have hge : s₁.gens = (s.setGen g .running).gens := H1.ge
      show AllBare (s₁.gens.setIfInBounds g .finished)
      rw [hge]
      show AllBare ((s.gens.setIfInBounds g .running).setIfInBounds g .finished)
      rw [H.ge]
      exact bare_set (bare_set hb rfl) rfl
    exact H2.same rfl rfl rfl fun a o e => Heap.get?_push_of_some _ (Heap.get?_push_of_some _ e)
  | cons x out' =>
    obtain ⟨tk, l₁, k, p, c', fs', lg', rfl, hgd, H1, hG1⟩ := hP
    have H2 := H1.gens (s₁.setGen g (End.susp (.int x tk) false l₁ k c' p fs').genState).gens
    refine wpAny_pure ⟨.int x tk, rfl, wpAny_pure ?_⟩
    have hge : s₁.gens = (s.setGen g .running).gens := H1.ge
    refine hitem x out' tk lg' (End.susp (.int x tk) false l₁ k c' p fs').genState _ ((B.gen (s.setGen g .running).gens).gen (s₁.setGen g (End.susp (.int x tk) false l₁ k c' p fs').genState).gens) k l₁ c' p fs' _ ⟨rfl, rfl, fun hb => ?_⟩ rfl ?_ rfl hG1 (St.perm H2 List.perm_middle)
    · show AllBare (s₁.gens.setIfInBounds g _)
      rw [hge]
      show AllBare ((s.gens.setIfInBounds g .running).setIfInBounds g _)
      rw [H.ge]
      exact bare_set (bare_set hb rfl) (by show (!(false || fs'.any Frame.guarded)) = true; rw [hgd]; rfl)
    · show (s₁.gens.setIfInBounds g _)[g]? = _
      rw [hge]
      simp [Shared.setGen, hlt]
end
end
section
open PySem PySem.W PySem.W.X PyProof.Rows PySem.Calls PySem.Spec
section
variable {w : World} {A : Around} {E : Value → Shared → Prop} {l lg : List Reg} {a D : Addr} {g : Nat} {E0 : List Env} {R : Result → Shared → Prop} {res : Value}
theorem ext_gen (hA : A.depth < 700) (hh : A.handled = none) (hf : A.frames = some E0) (hl : FrL E0 l) : ∀ (out : List Int) (acc : List Value) (s : Shared) (B : Bs) (lg : List Reg) (gs : GenState) (c₀ : Code) (t₀ : Sem Fin) (fs₀ : List Frame),
    St B s (vlst D acc :: genr a g :: lg ++ l) → Gd (hd.heap_39 w.params) B.g → B.gens[g]? = some gs → ((gs = .fresh c₀ ∧ t₀ = denote table c₀ ∧ fs₀ = []) ∨ ∃ k₀ l₀ p₀ cl, gs = .suspended k₀ l₀ c₀ p₀ fs₀ cl ∧ t₀ = k₀ (.send .none)) → Goes w out lg c₀ t₀ fs₀ →
    acc.length + out.length ≤ 1000 →
    (∀ vs s' B', GS B B' → IntsAre vs out → St B' s' (vlst D (acc ++ vs) :: l) → R (.ok (.ret res)) s') →
    codeAny (model PySem.Challenge.pw_xc0002_01 w) A (.builtin "list.extend.loop" ⟨[.ref D, .ref a, res], []⟩) R s := by
  intro out
  induction out with
  | nil =>
    intro acc s B lg gs c₀ t₀ fs₀ H G hg hgs hGo hz hR
    refine codeAny_builtin F.entry_extend_loop ?_
    rw [Around.under_plainId F.plain_extend_loop _]
    show wpAny _ A.in1 (pyNext (.ref a) >>= _) _ _ s
    refine wpAny_bind (next_gen0 (l := vlst D acc :: l) (E0 := E0) (St.perm H ?_) ⟨by show A.depth < 800; (first | lia | omega), hh, hf, hl.sub (fun x hx => .tail _ (.tail _ hx)), G⟩ (by show A.depth < recursionLimit; exact Nat.lt_trans (show _ < 900 by (first | lia | omega)) (by decide)) hg hgs hGo ?_ ?_)
    · exact (List.Perm.swap ..).trans (List.Perm.cons _ List.perm_middle.symm)
    · intro s' B' hB _ H'
      refine wpAny_pure (hR [] s' B' hB .nil ?_)
      rw [List.append_nil]; exact H'.tail
    · intro x out' tk lg' gs' s' B' k l₁ c' p fs' cl hB e
      cases e
  | cons x out ih =>
    intro acc s B lg gs c₀ t₀ fs₀ H G hg hgs hGo hz hR
    refine codeAny_builtin F.entry_extend_loop ?_
    rw [Around.under_plainId F.plain_extend_loop _]
    show wpAny _ A.in1 (pyNext (.ref a) >>= _) _ _ s
    refine wpAny_bind (next_gen0 (l := vlst D acc :: l) (E0 := E0) (St.perm H ?_) ⟨by show A.depth < 800; (first | lia | omega), hh, hf, hl.sub (fun x hx => .tail _ (.tail _ hx)), G⟩ (by show A.depth < recursionLimit; exact Nat.lt_trans (show _ < 900 by (first | lia | omega)) (by decide)) hg hgs hGo ?_ ?_)
    · exact (List.Perm.swap ..).trans (List.Perm.cons _ List.perm_middle.symm)
    · intro s' B' hB e; cases e
    · intro x' out' tk lg' gs' s' B' k l₁ c' p fs' cl hB e hg' hgs' hGo' H'
      cases e
      have H2 : St B' s' (vlst D acc :: genr a g :: lg' ++ l) := St.perm H' (by
        refine List.Perm.symm ((List.Perm.swap ..).trans (List.Perm.cons _ List.perm_middle.symm)))
      obtain ⟨o, ho, n, rfl⟩ := H2.head
      show wpAny _ A.in1 (updateSeq D (·.push (.int x tk)) >>= _) _ _ _
      refine wpAny_bind ?_
      have hs : acc.toArray.size ≤ 1000 := by rw [List.size_toArray]; (first | lia | omega)
      refine wpAny_updateSeq ho rfl (wpAny_pure ⟨plainId_quiet F.plain_extend_loop _, ?_⟩) (by rw [sizeLine_eq]; (first | lia | omega)) (by show (acc.toArray.push _).size ≤ sizeLine + 1; rw [Array.size_push, sizeLine_eq]; (first | lia | omega))
      have H3 := H2.upd (p' := fun o => ∃ n, o = PySem.W.listOf (acc ++ [Value.int x tk]).toArray n) (f := Obj.mapSeq (fun ys => ys.push (Value.int x tk))) (fun o ho => ?_) s'.toks
      · refine ih (acc ++ [Value.int x tk]) _ B' lg' gs' c' _ fs' H3 (hB.1 ▸ G) hg' (.inr ⟨k, l₁, p, cl, hgs', rfl⟩) hGo' (by rw [List.length_append, List.length_singleton]; simp only [List.length_cons] at hz; (first | lia | omega)) (fun vs s'' B'' hB'' hv H'' => ?_)
        refine hR (.int x tk :: vs) s'' B'' (hB.trans hB'') (.cons _ _ hv) ?_
        rw [List.append_assoc] at H''
        exact H''
      · obtain ⟨n, rfl⟩ := ho
        exact ⟨⟨_, by rw [← List.push_toArray]; rfl⟩, rfl⟩
theorem list_gen {Q : Value → Shared → Prop} {s : Shared} {B : Bs} {out : List Int} {gs : GenState} {c₀ : Code} {t₀ : Sem Fin} {fs₀ : List Frame} (hA : A.depth < 700) (hh : A.handled = none) (hf : A.frames = some E0) (hl : FrL E0 l)
    (H : St B s (genr a g :: lg ++ l)) (G : Gd (hd.heap_39 w.params) B.g) (hg : B.gens[g]? = some gs) (hgs : (gs = .fresh c₀ ∧ t₀ = denote table c₀ ∧ fs₀ = []) ∨ ∃ k₀ l₀ p₀ cl, gs = .suspended k₀ l₀ c₀ p₀ fs₀ cl ∧ t₀ = k₀ (.send .none)) (hGo : Goes w out lg c₀ t₀ fs₀)
    (hz : out.length ≤ 1000) (hQ : ∀ D s' B', GS B B' → St B' s' (ilst D out :: l) → Q (.ref D) s') : wpAny (model PySem.Challenge.pw_xc0002_01 w) A (call (.type "list") [.ref a]) Q E s := by
  obtain ⟨o, ho, nm, qn, hc, hd, hsl⟩ := H.head
  have hIs : s.heap.IsGen a g := ⟨o, nm, qn, ho, hc, hd, hsl⟩
  have hlt : a < s.heap.objs.size := Heap.lt_size ho
  have hne : s.heap.objs.size ≠ a := fun e => Nat.lt_irrefl _ (e ▸ hlt)
  refine callType_codes (Q₁ := fun obj s₁ => obj = .ref s.heap.objs.size ∧ s₁ = { s with heap := s.heap.push { cls := .type "list", data := .seq #[] } }) F.called_list (F.typeCall_list_1 _) F.entry_list_init
    (code_list_new _ ⟨rfl, rfl⟩) fun obj s₁ h₁ => ?_
  obtain ⟨rfl, rfl⟩ := h₁
  have hS : (s.heap.push { cls := .type "list", data := .seq #[] }).get? s.heap.objs.size = some { cls := .type "list", data := .seq #[] } := Heap.get?_push_size _ rfl
  refine ⟨⟨_, hS, rfl⟩, F.args_list_init_2 _ _, ?_⟩
  show wpAny _ A.in1.in1 (do let old ← Builtin.List.listItems (.ref s.heap.objs.size); Builtin.List.listUpdate (.ref s.heap.objs.size) (fun _ => #[]); letGo old.toList.reverse; Builtin.List.listExtendWith (.ref s.heap.objs.size) (.ref a) .none) _ _ _
  refine wpAny_bind ?_
  unfold Builtin.List.listItems
  refine wpAny_bind (wpAny_seqItems hS rfl (wpAny_pure ?_))
  show wpAny _ A.in1.in1 (updateSeq s.heap.objs.size (fun _ => #[]) >>= fun _ => letGo (#[] : Array Value).toList.reverse >>= fun _ => Builtin.List.listExtendWith (.ref s.heap.objs.size) (.ref a) .none) _ _ _
  refine wpAny_bind (wpAny_updateSeq hS rfl ?_)
  have hS₂ := Heap.get?_update_self (Obj.mapSeq (fun _ => (#[] : Array Value))) hS rfl
  refine wpAny_bind (wpAny_letGo ?_)
  have H1 : St B { s with heap := s.heap.push { cls := .type "list", data := .seq #[] } } (vlst s.heap.objs.size [] :: genr a g :: lg ++ l) := H.push rfl ⟨0, rfl⟩ s.toks
  have H2 : St B { s with heap := (s.heap.push { cls := .type "list", data := .seq #[] }).update s.heap.objs.size (Obj.mapSeq (fun _ => (#[] : Array Value))) } (vlst s.heap.objs.size [] :: genr a g :: lg ++ l) := H1.upd (fun o ho => by
    obtain ⟨n, rfl⟩ := ho
    exact ⟨⟨_, rfl⟩, rfl⟩) s.toks
  have hT2 := H2.get (r := genr a g) (.tail _ (.head _))
  revert H2 hS₂ hT2
  generalize (s.heap.push { cls := .type "list", data := .seq #[] }).update s.heap.objs.size (Obj.mapSeq (fun _ => (#[] : Array Value))) = h₂
  revert hne
  generalize s.heap.objs.size = D
  intro hne hS₂ H2 hT2
  obtain ⟨o2, ho2, nm2, qn2, hc2, hd2, hsl2⟩ := hT2
  have hIs2 : h₂.IsGen a g := ⟨o2, nm2, qn2, ho2, hc2, hd2, hsl2⟩
  have hTy : ({ s with heap := h₂ } : Shared).TypeIs (.ref a) "generator" := ⟨o2, ho2, hc2⟩
  unfold Builtin.List.listExtendWith
  refine wpAny_bind (wpAny_typeOf hTy ?_)
  have h1 : Builtin.List.listSameRef (.ref D) (.ref a) = false := by simp [Builtin.List.listSameRef, hne]
  have h2 : (Value.type "generator" == Value.type "list") = false := by decide
  have h3 : (Value.type "generator" == Value.type "tuple") = false := by decide
  simp only [h1, h2, h3, Bool.or_false, Bool.false_eq_true, if_false]
  refine wpAny_bind (wpAny_pyIter_gen hIs2 ?_)
  refine wpAny_bind (wpAny_holding ?_)
  unfold Builtin.List.listLengthHint
  refine wpAny_bind (wpAny_specialOf hTy F.gen_no_len ?_)
  show wpAny _ A.in1.in1 (specialOf (Value.ref a) (Str.ofString "__length_hint__") >>= _) _ _ _
  refine wpAny_bind (wpAny_specialOf hTy F.gen_no_hint ?_)
  refine wpAny_pure ?_
  show wpAny _ A.in1.in1 (rule "list.extend.makes-room" >>= fun _ => Builtin.List.listTouch (.ref D) >>= fun _ =>
    again (.builtin "list.extend.loop" ⟨[.ref D, .ref a, .none], []⟩)) _ _ _
  refine wpAny_bind (wpAny_rule ?_)
  refine wpAny_bind ?_
  show wpAny _ A.in1.in1 (updateSeq D (·.push .none) >>= fun _ => updateSeq D (·.pop)) _ _ _
  refine wpAny_bind (wpAny_updateSeq hS₂ rfl ?_)
  have hS₃ := Heap.get?_update_self (Obj.mapSeq (·.push Value.none)) hS₂ rfl
  refine wpAny_updateSeq (hz := by seq_fits) hS₃ rfl ?_
  have H3 := H2.upd (p' := fun o => ∃ n, o = PySem.W.listOf #[.none] n) (f := Obj.mapSeq (fun ys => ys.push Value.none)) (fun o ho => by
    obtain ⟨n, rfl⟩ := ho
    exact ⟨⟨_, rfl⟩, rfl⟩) s.toks
  have H4 := H3.upd (p' := fun o => ∃ n, o = PySem.W.listOf ([] : List Value).toArray n) (f := Obj.mapSeq (fun ys => ys.pop)) (fun o ho => by
    obtain ⟨n, rfl⟩ := ho
    exact ⟨⟨_, rfl⟩, rfl⟩) s.toks
  refine wpAny_pure ⟨plainId_quiet F.plain_extend_loop _, ?_⟩
  refine ext_gen (A := A.in1) (E0 := E0) (l := l) (by show A.depth < 700; (first | lia | omega)) hh hf hl out [] _ B lg gs c₀ t₀ fs₀ H4 G hg hgs hGo (by simpa using hz) fun vs s' B' hB hv H' => ?_
  exact ⟨rfl, hQ D s' B' hB (vlst_ints H' hv)⟩
end
theorem over_d {A : Around} {c : Code} {fs : List Frame} (h : A.depth < 800) (hn : Nat.ble (frameCount (fs.map Frame.where_) + c.weight) 60 = true) : (A.over c fs).depth < 870 := by
  have := Nat.le_of_ble_eq_true hn
  show A.depth + frameCount (fs.map Frame.where_) + c.weight < 870
  (first | lia | omega)
theorem over_f {A : Around} {c : Code} {fs : List Frame} {E0 es : List Env} (h : A.frames = some E0) (he : c.envs ++ envsOf (fs.map Frame.where_) = es) : (A.over c fs).frames = some (es ++ E0) := by
  subst he
  show pushEnvs c.envs (pushEnvs (envsOf (fs.map Frame.where_)) A.frames) = _
  rw [h]
  cases c.envs <;> cases envsOf (fs.map Frame.where_) <;> simp [pushEnvs]
end
section
open PySem PySem.W PyProof.Rows PySem.Calls PySem.Spec
noncomputable def methr (q f a : Addr) : Reg := cell q (fun o => o = methodObj (.ref f) (.ref a))
section
variable {prog : Program} {w : World} {A : Around} {E : Value → Shared → Prop} {s : Shared} {B : Bs} {l : List Reg} {a d f : Addr} {v1 v2 v3 v4 : Value} {env : Env}
theorem ga_meth {name : Str} {expr : Bool} {Q : Value → Shared → Prop} (H : St B s l) (G : Gd (hd.heap_39 w.params) B.g) (h1 : tsI a d ∈ l) (h2 : tsD w.params d v1 v2 v3 v4 ∈ l)
    (hg : plainGet (hd.heap_39 w.params) 130 name = true) (hh : hasDictIn (hd.heap_39 w.params) 130 = true) (ha : findIn (hd.heap_39 w.params) (.ref 130) name = some (some (.ref f))) (hf : isFn (hd.heap_39 w.params) (.ref f) = true)
    (hgf : specialIn (hd.heap_39 w.params) (.ref f) "__get__" = some (some (.builtin "function.__get__"))) (ht : takesIn (hd.heap_39 w.params) (.ref f) = some false) (hc : copiedNames.contains name = false)
    (hs : ∀ t1 t2 t3 t4 n, lookIn name (dictOf (tsEs w.params v1 v2 v3 v4 t1 t2 t3 t4) n) = some none) (h : ∀ q s', St B s' (methr q f a :: l) → Q (.ref q) s') : wpAny (model prog w) A (getAttr (.ref a) name expr) Q E s := by
  obtain ⟨t1, t2, t3, t4, n, I⟩ := ts_inst H h1 h2
  exact get_bind (H.kin G) I (plainGet_of hg).1 (findObj_fn hh ha hgf ht hc (hs _ _ _ _ _)) (plainGet_of hg).2
    (wpAny_call (fn_get (s := { s with toks := s.toks + 1 }) (H.kin G) (beq_iff_eq.mp hf) (handed_on rfl (h s.heap.objs.size _ (H.push (o := methodObj (.ref f) (.ref a)) (p := fun o => o = methodObj (.ref f) (.ref a)) rfl rfl (s.toks + 1))))))
theorem MethodCallS {o : Expr} {name : Str} {apos pos p : Pos} {e : Expr} {Q : Value → Shared → Prop} {M : Model}
    (h : wpAny M A (eval o env) (fun ov s₁ => wpAny M A (getAttr ov name true) (fun f s₂ => wpAny M A (callWith pos f [] (backTo pos (starEach [.Starred e p] env)) []) Q E s₂) E s₁) E s)
    (he : eval (.Call (.Attribute o name apos) [.Starred e p] [] pos) env = (do
      let ov ← eval o env
      standAt apos.atName
      let (f, first) ← holding [ov] (do pure (← getAttr ov name true, []))
      callWith pos f first (backTo pos (starEach [.Starred e p] env)) [])) :
    wpAny M A (eval (.Call (.Attribute o name apos) [.Starred e p] [] pos) env) Q E s := by
  rw [he]
  refine wpAny_bind (wpAny_mono h (fun ov s₁ h₁ => wpAny_bind (wpAny_standAt (wpAny_bind (wpAny_holding (wpAny_bind (wpAny_mono h₁ (fun f s₂ h₂ => wpAny_pure h₂) fun _ _ x => x)))))) fun _ _ x => x)
theorem cw_methS {M : Model} {K : Frag} {pos p : Pos} {e : Expr} {q g : Addr} {first : List Value} {Q : Value → Shared → Prop} (G : Gd K B.g) (hf : fnIn K g = true)
    (h : wpAny M A (eval e env) (fun v s₁ => StarOf M A E v (fun vs s₂ => (∃ l, St B s₂ l ∧ methr q g a ∈ l) ∧ wpAny M A (call (.ref q) (first ++ vs)) Q E s₂) s₁) E s)
    (he : starEach [.Starred e p] env = [(true, eval e env)]) :
    wpAny M A (callWith pos (.ref q) first (backTo pos (starEach [.Starred e p] env)) []) Q E s := by
  rw [he]
  refine ks_call rfl (keeps_M (self := .ref a) hf) (ks_lone (wpAny_mono h (fun v s₁ h₁ => ?_) fun _ _ x => x))
  unfold StarOf at h₁ ⊢
  refine wpAny_mono h₁ (fun b s₂ h₂ => ⟨h₂.1, wpAny_mono h₂.2 (fun vs s₃ h₃ => ?_) fun _ _ x => x⟩) fun _ _ x => x
  obtain ⟨⟨l, H, hm⟩, h4⟩ := h₃
  obtain ⟨o, ho, rfl⟩ := H.get hm
  exact ⟨⟨ho, H.kin G⟩, h4⟩
theorem call_meth {q g : Addr} {vs : List Value} {Q : Value → Shared → Prop} (H : St B s l) (hm : methr q g a ∈ l)
    (h : codeAny (model prog w) A (.call (.ref g) ⟨.ref a :: vs, []⟩) (fun r s' => match r with | .ok (.ret v) => Q v s' | .ok _ => False | .error e => E e s') s) : wpAny (model prog w) A (call (.ref q) vs) Q E s := by
  obtain ⟨o, ho, rfl⟩ := H.get hm
  exact wpAny_call (method_call ho h)
end
end
section
open PySem PySem.W PyProof.Rows PySem.Calls PySem.Spec
section
variable {prog : Program} {w : World} {A : Around} {E : Value → Shared → Prop} {s : Shared} {B : Bs} {l l' : List Reg} {env : Env}
theorem raise_ve {x : Str} {np cpos pos : Pos} {a : Expr} {rest : List Expr} {Q : Flow → Shared → Prop} (hh : A.handled = none)
    (h : wpAny (model prog w) A (eval (.Name x np) env) (fun f s₁ => f = .type "ValueError" ∧ wpAny (model prog w) A (spliced (backTo cpos (starEach (a :: rest) env))) (fun vs s₂ => vs.length ≤ 100 ∧ ∃ l, St B s₂ l ∧
      ∀ e t s', St B s' (excr e (.type "ValueError") (.ref t) .none :: l) → E (.ref e) s') E s₁) E s)
    (he : starEach (a :: rest) env = (false, eval a env) :: starEach rest env) (hplain : (backTo cpos (starEach rest env)).any (·.1) = false) :
    wpAny (model prog w) A (exec (.Raise (some (.Call (.Name x np) (a :: rest) [] cpos)) none pos) env) Q E s := by
  have hpl : (backTo cpos (starEach (a :: rest) env)).any (·.1) = false := by rw [he]; show (false || (backTo cpos (starEach rest env)).any (·.1)) = false; rw [hplain]; rfl
  refine wpAny_Raise_call F.excCall_ValueError F.excRaise_ValueError hh hpl (wpAny_mono h (fun f s₁ h₁ => ⟨h₁.1, ?_⟩) fun _ _ x => x)
  have h2 := h₁.2
  rw [he] at h2 ⊢
  refine evalArgs_plain (wpAny_mono h2 (fun vs s₂ h₂ => ?_) fun _ _ x => x)
  obtain ⟨hl, l, H, hq⟩ := h₂
  refine ⟨rfl, by show vs.length ≤ sizeLine; rw [sizeLine_eq]; (first | lia | omega), fun h' e hm => ?_⟩
  obtain ⟨t, he, htn, ht⟩ := hm.there
  refine hq e t _ (H.add rfl rfl rfl (fun b o q => hm.keeps b o q) ⟨_, he, rfl, _, rfl, rfl, rfl, rfl⟩ fun b hb => ?_)
  rw [List.mem_singleton.mp hb]; exact hm.new
theorem int_len (n : Fin 100) : (Str.ofString (toString ((n.val : Nat) : Int))).length ≤ 10 := by
  have h : ∀ n : Fin 100, (Str.ofString (toString ((n.val : Nat) : Int))).length ≤ 10 := by decide +kernel
  exact h n
theorem int_log (n : Fin 100) : (((n.val : Nat) : Int).natAbs).log2 < 1920 := by
  have h : ∀ n : Fin 100, (((n.val : Nat) : Int).natAbs).log2 < 1920 := by decide +kernel
  exact h n
theorem fmt_int {value : Expr} {pos : Pos} {Q : Value → Shared → Prop}
    (h : wpAny (model prog w) A (eval value env) (fun v s₁ => ∃ (l : List Reg) (x : Int) (t : Nat), v = .int x t ∧ 0 ≤ x ∧ x < 100 ∧ St B s₁ l ∧ ∀ y u s', y.length ≤ 10 → St B s' l → Q (.str y u) s') E s) :
    wpAny (model prog w) A (eval (.FormattedValue value 114 none pos) env) Q E s := by
  refine wpAny_FormattedValue_repr (wpAny_mono h (fun v s₁ h₁ => ?_) fun _ _ x => x)
  obtain ⟨l, x, t, rfl, h0, h1, H, hq⟩ := h₁
  obtain ⟨n, rfl⟩ := Int.eq_ofNat_of_zero_le h0
  have hn : n < 100 := by (first | lia | omega)
  refine pyReprObj_int (int_log ⟨n, hn⟩) ?_
  refine formatField_str (fun t' tk => hq _ _ _ (int_len ⟨n, hn⟩) (H.toks tk)) (Nat.le_trans (int_len ⟨n, hn⟩) (by rw [sizeLine_eq]; (first | lia | omega)))
theorem fstr3 {v : Expr} {s1 s2 : Str} {k1 k2 : Nat} {p1 p2 p3 pos : Pos} {Q : Value → Shared → Prop} (H : St B s l)
    (h : ∀ s, St B s l → wpAny (model prog w) A (eval v env) (fun v s₁ => ∃ (x : Int) (t : Nat), v = .int x t ∧ 0 ≤ x ∧ x < 100 ∧ St B s₁ l ∧ ∀ y u s', St B s' l → Q (.str y u) s') E s) (h1 : s1.length ≤ 100) (h2 : s2.length ≤ 100) :
    wpAny (model prog w) A (eval (.JoinedStr [.Constant (.str s1) k1 p1, .FormattedValue v 114 none p2, .Constant (.str s2) k2 p3] pos) env) Q E s := by
  have e0 : (Str.empty : Str).length = 0 := rfl
  refine PyProof.Rows.JoinedStr_many (joinParts_cons (wpAny_Constant_str ⟨?_, ?_⟩))
  · rw [strLen_append, sizeLine_eq]; (first | lia | omega)
  refine joinParts_cons (fmt_int (B := B) (wpAny_mono (h _ (H.toks (s.toks + 1))) (fun v s₁ h₁ => ?_) fun _ _ e => e))
  obtain ⟨x, t, rfl, hx0, hx1, H1, hq⟩ := h₁
  refine ⟨l, x, t, rfl, hx0, hx1, H1, fun y u s' hy H2 => ⟨?_, ?_⟩⟩
  · rw [strLen_append, strLen_append, sizeLine_eq]; (first | lia | omega)
  refine joinParts_cons (wpAny_Constant_str ⟨?_, ?_⟩)
  · rw [strLen_append, strLen_append, strLen_append, sizeLine_eq]; (first | lia | omega)
  refine joinParts_nil (hq _ _ _ ((H2.toks (s'.toks + 1)).toks (s'.toks + 1 + 1))) ?_
  rw [strLen_append, strLen_append, strLen_append, sizeLine_eq]; (first | lia | omega)
theorem for_itup1 {x : Str} {px : Pos} {body : List Stmt} {it r : Addr} {z : Int} {R : Result → Shared → Prop}
    (H : St B s (titer it r 0 :: l)) (hm : itup r [z] ∈ l)
    (turn : ∀ t s₁, St B s₁ (titer it r 1 :: l) → wpAny (model prog w) A (assign (.Name x px) env (.int z t)) (fun _ s₂ => wpAny (model prog w) A (execs body env) (fun _ _ => False) (notedBy (model prog w) A env fun e s' => R (.error e) s') s₂) (fun _ _ => False) s₁) :
    codeAny (model prog w) A (.forLoop (.Name x px) (.ref it) body [] env) R s := by
  refine codeAny_forLoop_any (fun n s' => s' = s) ?_ 0 rfl
  rintro n s' rfl
  obtain ⟨vs, hv, hls⟩ := itup_is H (.tail _ hm)
  obtain ⟨t, ht⟩ := ints_at hv 0 (by simp)
  obtain ⟨o, ho, hc, hd⟩ := H.head
  refine wpAny_pyNext_tuple_item (i := 0) ⟨o, ho, hc, hd⟩ hls (x := .int z t) (by simpa using ht) fun h' hit hs => ?_
  refine wpAny_pure ?_
  refine wpAny_mono (turn t _ (H.turn rfl rfl rfl (fun b o e n => (hs.2 b n).trans e) ?_)) (fun _ s₂ h₂ => wpAny_mono h₂ (fun _ _ q => q.elim) fun _ _ q => q) fun _ _ q => q.elim
  obtain ⟨o', ho', hc', hd'⟩ := hit
  exact ⟨o', ho', hc', hd'⟩
theorem came_back {M : Model} {L T e : Addr} {cls a0 fl : Value} (hf : env.frame = some L) (H : St B s l) (hm : excr e cls a0 (.ref T) ∈ l) (R : Rep (tbr T fl) (tbr T (rawInt L)) l l')
    (h : ∀ s', St B s' l' → E (.ref e) s') : cameBackBy M A env E (.ref e) s := by
  obtain ⟨o, ho, hc, vs, hd, h0, h1, h2⟩ := H.get hm
  unfold cameBackBy
  refine wpAny_bind (wpAny_field ho hd h1 ?_)
  rw [if_neg (show ¬ ((Value.ref T == Value.none) = true) from Bool.false_ne_true)]
  show wpAny M A (setFlight (.ref e) env.frame) _ _ _
  unfold setFlight
  refine wpAny_bind (wpAny_field ho hd h1 ?_)
  rw [if_pos (show (Value.ref T != Value.none) = true from by simp), hf]
  exact tb_set H R h
end
end
section
open PySem PySem.W PyProof.Rows PySem.Calls PySem.Spec
theorem triples_snoc {a b c : Value} {i j : Int} {t u : Nat} (ha : a = .int i t) (hb : b = .int j u) : ∀ l : List Value, TriplesOk l → TriplesOk (l ++ [a, b, c]) := by
  intro l h
  fun_induction TriplesOk l with
  | case1 => subst ha hb; exact trivial
  | case2 x y z w v rest ih => exact ih h
  | case3 => exact h.elim
set_option tactic.hygienic true in
theorem among_snoc {p p' : Pos} {c cv : Value} : ∀ l : List Value, TriplesOk l → codeAmong p (l ++ [rawInt p'.line, rawInt p'.col, c]) = some cv → codeAmong p l = some cv ∨ cv = c := by
  intro l h e
  fun_induction TriplesOk l with
  | case1 =>
    simp only [List.nil_append, codeAmong, rawInt] at e
    split at e
    · exact .inr (Option.some.inj e).symm
    · cases e
  | case2 a t b u x rest ih =>
    simp only [List.cons_append, codeAmong] at e ⊢
    split at e
    · rename_i hc; rw [if_pos hc]; exact .inl e
    · rename_i hc; rw [if_neg hc]; exact ih h e
  | case3 => exact h.elim
theorem triples_nostr {ps : Array Value} {q : Str} {t : Nat} (h : TriplesOk ps.toList) (e : ps[1]? = some (.str q t)) : False := by
  obtain ⟨ps⟩ := ps
  match ps, h with
  | [], _ => simp at e
  | .int _ _ :: .int _ _ :: _ :: _, _ => simp at e
noncomputable def tabq (P : Addr) (q : Str) (cs : List Addr) : Reg where
  fp := P :: cs
  P h := ∃ ps, h.get? P = some (tabObj ps) ∧ TriplesOk ps.toList ∧ (∀ pos cv, codeAmong pos ps.toList = some cv → ∃ c ∈ cs, cv = .ref c) ∧ ∀ c ∈ cs, h.CodeRec (.ref c) q
  alive h x a ha := by
    obtain ⟨ps, h1, _, _, h4⟩ := x
    rcases List.mem_cons.mp ha with rfl | ha
    · exact ⟨_, h1⟩
    · obtain ⟨c, o, vs, t, e, hg, _⟩ := h4 a ha
      cases e; exact ⟨o, hg⟩
  mono h h' k x := by
    obtain ⟨ps, h1, h2, h3, h4⟩ := x
    refine ⟨ps, (k P (.head _)).trans h1, h2, h3, fun c hc => ?_⟩
    obtain ⟨c', o, vs, t, e, hg, r⟩ := h4 c hc
    cases e
    exact ⟨c, o, vs, t, rfl, (k c (.tail _ hc)).trans hg, r⟩
noncomputable def lamr (f : Addr) (q : Str) (params : Arguments) (body : Expr) (scope : Scope) (clos : List (Str × Addr)) (c : Addr) : Reg :=
  cell f (fun o => ∃ pm ctv, o = kla_obj (Str.ofString "<lambda>") q params body scope clos pm c ctv)
structure Ln (g : Heap) (mg : Str → Option Value) (c P : Addr) : Prop where
  ns : g.Ns mainGlobals mg
  hd : CodeHd g c P
  bm : ∃ bm o, mg "__builtins__" = some (.ref bm) ∧ bm ≠ builtinsNs ∧ g.get? bm = some o ∧ o.cls = .type "module" ∧ o.dict = some builtinsNs ∧ o.data = .plain
section
variable {M : Model} {A : Around} {E : Value → Shared → Prop} {s : Shared} {B : Bs} {l l' : List Reg} {params : Arguments} {body : Expr} {scope : Scope} {clos : List (Str × Addr)} {env : Env} {mg : Str → Option Value} {c P f : Addr} {q : Str} {cs : List Addr}
theorem sl_lambda {pos : Pos} {Q : Value → Shared → Prop} (H : St B s l) (O : Out (tabq P q cs) l l') (X : Ln B.g mg c P) (hcode : env.code = .ref c) (hge : env.globals = mainGlobals) (hq : env.qual ++ Str.ofString "<lambda>" = q)
    (hcl : closureFor scope env = pure clos) (hdef : defaultsOf params env = ([], []))
    (h : ∀ f c' cs' s', c' ∈ cs' → St B s' (lamr f q params body scope clos c' :: tabq P q cs' :: l') → Q (.ref f) s') : wpAny M A (eval (.Lambda params body scope pos) env) Q E s := by
  have H0 := H.out O
  obtain ⟨ps, hP, ht, hin, hrec⟩ := H0.head
  have hPn : B.g.get? P = none := H0.off _ (.head _) P (.head _)
  have hg : s.heap.Ns mainGlobals mg := X.ns.keeps H.keep
  have hC : CodeHd s.heap c P := X.hd.keeps H.keep
  obtain ⟨bm, ob, b1, b2, b3, b4, b5, b6⟩ := X.bm
  have hgP : mainGlobals ≠ P := fun e => by
    obtain ⟨o, es, ep, e', hd, _⟩ := X.ns
    rw [e, hPn] at e'; cases e'
  have hbP : bm ≠ P := fun e => by rw [e, hPn] at b3; cases b3
  have hbG : bm ≠ mainGlobals := fun q => by
    obtain ⟨o, es, ep, e, hd, _⟩ := X.ns
    rw [q, e] at b3; cases b3; rw [hd] at b6; cases b6
  have hb : s.heap.BuiltinsAt mg P := ⟨bm, ob, b1, b2, hbG, hbP, H.keep _ _ b3, b4, b5, b6⟩
  refine kla_eval hdef ?_
  have hq' : env.qual ++ ("<lambda>" : Str) = q := hq
  rw [hq']
  cases hnf : codeAmong pos ps.toList with
  | some cv =>
    obtain ⟨c', hc', rfl⟩ := hin _ _ hnf
    refine kla_makeFunctionHit hcl hge hg hcode hC hP ht hnf hb fun ctv h' tk hk hsz => h _ c' cs _ hc' ?_
    have H1 : St B { s with heap := h', toks := tk } (tabq P q cs :: l') := H0.same rfl rfl rfl hk
    exact H1.new1 rfl ⟨_, ctv, rfl⟩
  | none =>
    refine kla_makeFunction hcl hge hg hcode hC hP ht hnf hgP hb fun c' ctv h' tk hx hge' hlt hcr htb => h _ c' (c' :: cs) _ (.head _) ?_
    have hcn : s.heap.get? c' = none := Heap.get?_none_of_le hge'
    have H1 : St B { s with heap := h', toks := tk } (tabq P q (c' :: cs) :: l') := by
      refine H0.step rfl rfl rfl (fun b o e n => hx b o (fun z => n (z ▸ .head _)) e) ⟨_, htb, ?_, fun p cv e => ?_, fun d hd => ?_⟩ fun a ha => ?_
      · rw [Array.toList_append]; exact triples_snoc rfl rfl _ ht
      · rw [Array.toList_append] at e
        rcases among_snoc _ ht e with e | e
        · obtain ⟨d, hd, e⟩ := hin _ _ e
          exact ⟨d, .tail _ hd, e⟩
        · exact ⟨c', .head _, e⟩
      · rcases List.mem_cons.mp hd with rfl | hd
        · exact hcr
        · obtain ⟨d', o, vs, t, e, hg', r⟩ := hrec d hd
          cases e
          refine ⟨d, o, vs, t, rfl, hx _ _ (fun z => ?_) hg', r⟩
          rw [z, hP] at hg'; cases hg'
          obtain ⟨r1, r2⟩ := r
          cases r1
          exact triples_nostr ht r2
      · rcases List.mem_cons.mp ha with rfl | ha
        · exact .inl (.head _)
        · rcases List.mem_cons.mp ha with rfl | ha
          · exact .inr hcn
          · exact .inl (.tail _ ha)
    exact H1.new1 rfl ⟨_, ctv, rfl⟩
theorem sl_callLam {prog : Program} {w : World} {R : Result → Shared → Prop} (H : St B s l) (hl : lamr f q params body scope clos c ∈ l) (ht : tabq P q cs ∈ l) (hc : c ∈ cs) (lim : B.g.NoLimit) (hroom : A.depth < recursionLimit)
    (hbind : ∀ pm ctv, bindArgs (kla_fn (Str.ofString "<lambda>") q params body scope clos pm (.ref c) ctv) ⟨[], []⟩ = pure [])
    (h : ∀ L s', St B s' (frame L [] :: l) → wpAny (model prog w) (A.deeper (envX q scope L f (.ref c) clos)) (eval body (envX q scope L f (.ref c) clos)) (fun v s' => R (.ok (.ret v)) s')
      (fun e s' => wpAny (model prog w) (A.deeper (envX q scope L f (.ref c) clos)) (leaving (envX q scope L f (.ref c) clos) e) (fun _ s'' => R (.error e) s'') (fun e' s'' => R (.error e') s'') s') s')
    (hco : scope.isCoroutine = false) (hgen : scope.isGenerator = false) (hk : scope.kind = .function) (hcell : ∀ x ∈ scope.names, x.2 ≠ .cell) : codeAny (model prog w) A (.call (.ref f) ⟨[], []⟩) R s := by
  obtain ⟨o, ho, pm, ctv, rfl⟩ := H.get hl
  obtain ⟨ps, _, _, _, hrec⟩ := H.get ht
  refine kla_callFunE hroom ho rfl hco hgen rfl (hrec c hc) ?_
  rw [hbind]
  refine wpAny_pure (wpAny_newFunctionEnv hcell (fun _ hx => nomatch hx) (fun h₁ hns hsb => ⟨(lim.keeps H.keep).fresh _ hsb, ?_⟩) hk)
  show codeAny _ _ (.expr body (envX q scope s.heap.objs.size f (.ref c) clos)) _ _
  have hk₁ : ∀ b o, s.heap.get? b = some o → h₁.get? b = some o := fun b o e => hsb.extBut b o (Nat.ne_of_lt (Heap.lt_size e)) (Heap.get?_push_of_some _ e)
  refine kla_codeExpr (h _ _ (H.add rfl rfl rfl hk₁ ⟨_, hns, fun _ _ e => e⟩ fun a ha => ?_))
  rw [List.mem_singleton.mp ha]
  exact Heap.get?_none_of_le (Nat.le_refl _)
theorem cw_lam {pos : Pos} {first : List Value} {kws : List (Option Str × Sem Value)} {Q : Value → Shared → Prop} {prog : Program} {w : World} (H : St B s l) (hl : lamr f q params body scope clos c ∈ l) (h : wpAny (model prog w) A (call (.ref f) (first ++ [])) Q E s) (hk : kws = []) :
    wpAny (model prog w) A (callWith pos (.ref f) first (backTo pos (starEach [] env)) kws) Q E s := by
  subst hk
  obtain ⟨o, ho, pm, ctv, rfl⟩ := H.get hl
  refine callWith_of (P := fun hp => hp.get? f = some (kla_obj (Str.ofString "<lambda>") q params body scope clos pm c ctv)) rfl (fun hp X => ⟨.frame, .inl rfl, (Looks.ld (part := none) X).andThen .now⟩) (evalArgs_nil3 ⟨ho, h⟩)
section
variable {L : Addr} {cn : Str} {sc : Scope} {cd : Value} {cl : List (Str × Addr)} {x : Str} {v : Value} {d : Addr} {K : Frag}
theorem nmX_f {pos : Pos} {Q : Value → Shared → Prop} (H : St B s l) (hc : cl.lookup x = some d) (hm : cellr d (some v) ∈ l) (h : Q v s)
    (hk : sc.kind = .function) (hl : (envX cn sc L f cd cl).kindOf x = some .free) (hn : (x == ("__classdict__" : Str)) = false) (hd : (x == ("__debug__" : Str)) = false) :
    wpAny M A (eval (.Name x pos) (envX cn sc L f cd cl)) Q E s := wpAny_Name (wpAny_loadName_free (env := envX cn sc L f cd cl) hk hl hc (H.get hm) h hn) hd
end
end
end
section
open PySem PySem.W PyProof.Rows PySem.Calls PySem.Spec
section
variable {prog : Program} {w : World} {A : Around} {E : Value → Shared → Prop} {s : Shared} {B : Bs} {l l' : List Reg} {r : Addr} {xs : List Int} {a b : Int} {t u : Nat} {env : Env}
noncomputable def SliceTo (Q : Value → Shared → Prop) (o vu : Value) (s : Shared) : Prop :=
  ∃ (B : Bs) (l : List Reg) (r : Addr) (vs : List Value) (xs : List Int) (y : Int) (u : Nat), o = .ref r ∧ vu = .int y u ∧ St B s l ∧ s.heap.IsList r vs.toArray ∧ IntsAre vs xs ∧ xs.length ≤ 1000 ∧ 0 ≤ y ∧ ∀ q s', St B s' (ilst q (xs.take y.toNat) :: l) → Q (.ref q) s'
theorem slice_to {value hi : Expr} {p pos : Pos} {Q : Value → Shared → Prop}
    (h : wpAny (model prog w) A (eval value env) (fun o s₁ => wpAny (model prog w) A (eval hi env) (fun vu s₃ => SliceTo Q o vu s₃) E s₁) E s) (ht : ∀ o r, letTemporaryGo value o r = pure ()) :
    wpAny (model prog w) A (eval (.Subscript value (.Slice none (some hi) none p) pos) env) Q E s := by
  refine wpAny_Subscript_list_slice (wpAny_mono h (fun o s₁ h₁ => wpAny_pure (wpAny_mono (show wpAny _ _ (evalPart (some hi) env) _ _ _ from h₁) (fun vu s₃ h₃ => ?_) fun _ _ e => e)) fun _ _ e => e) ht
  obtain ⟨B, l, r, vs, xs, y, u, rfl, rfl, H, hl, hv, hz, hy, hq⟩ := h₃
  refine ⟨r, vs.toArray, none, some y, rfl, hl, by rw [List.size_toArray, hv.length, sizeLine_eq]; (first | lia | omega), .none, .int y u, hq _ _ ?_⟩
  have e : s₃.heap.objs.size + 1 = (s₃.heap.push { cls := .type "slice", data := .fields #[.none, .int y u, .none] }).objs.size := by rw [Heap.size_push]
  rw [e]
  have H1 : St B { s₃ with heap := s₃.heap.push { cls := .type "slice", data := .fields #[.none, .int y u, .none] } } l := H.same rfl rfl rfl fun _ _ q => Heap.get?_push_of_some _ q
  refine H1.new1 (o := { cls := .type "list", data := .seq (slicePick vs.toArray none (some y) none) }) (p := fun o => ∃ vs n, o = PySem.W.listOf vs.toArray n ∧ IntsAre vs (xs.take y.toNat)) rfl ⟨(slicePick vs.toArray none (some y) none).toList, 0, by simp [PySem.W.listOf], ?_⟩
  exact slice_ints_uptoW hv hy
theorem sum_ilst {Q : Value → Shared → Prop} (hh : A.handled = none) (H : St B s l) (hm : ilst r xs ∈ l) (h : ∀ z t s', St B s' l → Q (.int z t) s') : wpAny (model prog w) A (call (.builtin "sum") [.ref r]) Q E s := by
  obtain ⟨vs, hv, hl⟩ := ilst_is H hm
  obtain ⟨ys, hx⟩ := hv.allInts.items
  have hl' : s.heap.IsList r (intItems ys) := hx ▸ hl
  exact sum_intListG hh hl' fun h' tk t' hk => h _ _ _ (H.same rfl rfl rfl hk)
theorem fdiv6 {Q : Value → Shared → Prop} (H : St B s l) (h : ∀ t s', St B s' l → Q (.int (a.fdiv 6) t) s') : wpAny (model prog w) A (binaryOp .FloorDiv (.int a t) (.int 6 u)) Q E s :=
  floordiv_int (by decide) (h _ _ (H.toks _)) (.inl (PyProof.noPylong_of_log2 (by decide +kernel)))
theorem fmod_ {Q : Value → Shared → Prop} (H : St B s l) (hb : b ≠ 0) (h : ∀ t s', St B s' l → Q (.int (a.fmod b) t) s') : wpAny (model prog w) A (binaryOp .Mod (.int a t) (.int b u)) Q E s :=
  mod_int' hb (h _ _ (H.toks _))
theorem newtup_ints {vs : List Value} {Q : Value → Shared → Prop} (H : St B s l) (hv : IntsAre vs xs) (hz : xs.length ≤ 1000) (h : ∀ q s', St B s' (itup q xs :: l) → Q (.ref q) s') : wpAny (model prog w) A (newTuple vs) Q E s :=
  wpAny_newObj_type (h _ _ (H.new1 rfl ⟨vs, 0, rfl, hv⟩)) (by show vs.toArray.size ≤ sizeLine; rw [List.size_toArray, ints_len hv, sizeLine_eq]; (first | lia | omega))
theorem unpack2 {Q : List Value → Shared → Prop} (hh : A.handled = none) (H : St B s l) (hm : itup r [a, b] ∈ l) (h : ∀ t u s', St B s' l → Q [.int a t, .int b u] s') : wpAny (model prog w) A (unpackItems (.ref r) 2 none) Q E s := by
  obtain ⟨o, ho, vs, n, rfl, hv⟩ := H.get hm
  cases hv with
  | cons _ t hv =>
    cases hv with
    | cons _ u hv =>
      cases hv
      refine unpackItems_tuple (items := #[.int a t, .int b u]) hh ⟨_, ho, rfl, n, rfl⟩ fun h' hx => ?_
      refine h t u _ (H.same rfl rfl rfl fun b o e => hx b o (Nat.ne_of_lt (Heap.lt_size e)) e)
set_option tactic.hygienic true in
noncomputable def Pair (M : Model) (A : Around) (E : Value → Shared → Prop) (Q : Flow → Shared → Prop) (env : Env) (x y : Str) (v1 v2 : Value) (s : Shared) : Prop :=
  ∃ (B : Bs) (l : List Reg) (a b : Int) (t u : Nat), v1 = .int a t ∧ v2 = .int b u ∧ St B s l ∧ ∀ t u s3, St B s3 l → wpAny M A (storeName env y (.int b u)) (fun _ s4 => wpAny M A (storeName env x (.int a t)) (fun _ s5 => Q .next s5) E s4) E s3
theorem Assign_pair {x y : Str} {e1 e2 : Expr} {p1 p2 tp vp pos : Pos} {k k2 : Nat} {Q : Flow → Shared → Prop} (hh : A.handled = none)
    (h : wpAny (model prog w) A (eval e1 env) (fun v1 s1 => wpAny (model prog w) A (eval e2 env) (fun v2 s2 => Pair (model prog w) A E Q env x y v1 v2 s2) E s1) E s)
    (hs : swapsWithSole [.Tuple [.Name x p1, .Name y p2] k tp] (.Tuple [e1, e2] k2 vp) pos.line env = pure false)
    (hw : swappedStores [.Tuple [.Name x p1, .Name y p2] k tp] (.Tuple [e1, e2] k2 vp) env = pure (some [x, y]))
    (he : starEach [e1, e2] env = (false, eval e1 env) :: starEach [e2] env) (he2 : starEach [e2] env = (false, eval e2 env) :: starEach [] env) :
    wpAny (model prog w) A (exec (.Assign [.Tuple [.Name x p1, .Name y p2] k tp] (.Tuple [e1, e2] k2 vp) pos) env) Q E s := by
  refine Assign_Tuple_swapped (Tuple_ (wpAny_items_cons (wpAny_mono h (fun v1 s1 h1 => wpAny_items_cons (wpAny_mono h1 (fun v2 s2 h2 => wpAny_items_nil ?_) fun _ _ e => e) he2) fun _ _ e => e) he)) hs hw
  obtain ⟨B, l, a, b, t, u, rfl, rfl, H, hq⟩ := h2
  refine newtup_ints H (.cons a t (.cons b u .nil)) (by simp) fun q s' H' => ?_
  refine unpack2 hh H' (.head _) fun t u s3 H3 => ?_
  refine wpAny_assignInOrder_more (wpAny_bindName (wpAny_mono (hq t u s3 H3.tail) (fun _ s4 h4 => wpAny_assignInOrder_more (wpAny_bindName (wpAny_mono h4 (fun _ s5 h5 => wpAny_assignInOrder_none h5) fun _ _ e => e))) fun _ _ e => e))
theorem max2 {Q : Value → Shared → Prop} (hh : A.handled = none) (H : St B s l) (h : ∀ t s', St B s' l → Q (.int (if b > a then b else a) t) s') : wpAny (model prog w) A (call (.builtin "max") [.int a t, .int b u]) Q E s := by
  refine max_two_ints hh fun h' tk hk => ?_
  by_cases hc : b > a
  · rw [if_pos hc]; have := h u _ (H.same (s' := ⟨h', s.gens, s.drawn, tk, s.os⟩) rfl rfl rfl hk); rwa [if_pos hc] at this
  · rw [if_neg hc]; have := h t _ (H.same (s' := ⟨h', s.gens, s.drawn, tk, s.os⟩) rfl rfl rfl hk); rwa [if_neg hc] at this
theorem min2 {Q : Value → Shared → Prop} (hh : A.handled = none) (H : St B s l) (h : ∀ t s', St B s' l → Q (.int (if b < a then b else a) t) s') : wpAny (model prog w) A (call (.builtin "min") [.int a t, .int b u]) Q E s := by
  refine min_two_ints hh fun h' tk hk => ?_
  by_cases hc : b < a
  · rw [if_pos hc]; have := h u _ (H.same (s' := ⟨h', s.gens, s.drawn, tk, s.os⟩) rfl rfl rfl hk); rwa [if_pos hc] at this
  · rw [if_neg hc]; have := h t _ (H.same (s' := ⟨h', s.gens, s.drawn, tk, s.os⟩) rfl rfl rfl hk); rwa [if_neg hc] at this
theorem weight_ints : ∀ xs : List Int, (∀ x ∈ xs, 0 ≤ x ∧ x < 6) → PyData.weightAll (xs.map .int) ≤ 4 * xs.length
  | [], _ => Nat.le_refl _
  | x :: xs, h => by
    have h1 := weight_ints xs fun y hy => h y (.tail _ hy)
    have h2 := h x (.head _)
    have h3 : PyData.weight (.int x) ≤ 3 := by
      have hc : x = 0 ∨ x = 1 ∨ x = 2 ∨ x = 3 ∨ x = 4 ∨ x = 5 := by (first | lia | omega)
      rcases hc with rfl | rfl | rfl | rfl | rfl | rfl <;> decide +kernel
    show PyData.weight (.int x) + 1 + PyData.weightAll (xs.map .int) ≤ 4 * (xs.length + 1)
    (first | lia | omega)
theorem lay0_ints {xs : List Int} (hz : xs.length ≤ 50) (hr : ∀ x ∈ xs, 0 ≤ x ∧ x < 6) : PyData.layable0 (.list (xs.map .int)) = true := by
  have h1 : PyData.canLay0 (.list (xs.map .int)) = true := lay_ints xs
  have h2 : PyData.depth (.list (xs.map .int)) ≤ 64 := by simp only [PyData.depth, depth_ints]; (first | lia | omega)
  have h3 : PyData.weight (.list (xs.map .int)) ≤ 2 ^ 20 := by
    have := weight_ints xs hr
    show PyData.weightAll (xs.map .int) ≤ 2 ^ 20
    (first | lia | omega)
  unfold PyData.layable0
  rw [h1, decide_eq_true h2, decide_eq_true h3]; rfl
theorem index_ilst {Q : Value → Shared → Prop} (H : St B s l) (hm : ilst r xs ∈ l) (hk : a ∈ xs) (hz : xs.length ≤ 50) (hr : ∀ x ∈ xs, 0 ≤ x ∧ x < 6) (h : ∀ t s', St B s' l → Q (.int (xs.idxOf a : Nat) t) s') : wpAny (model prog w) A (call (.builtin "list.index") [.ref r, .int a t]) Q E s := by
  obtain ⟨vs, hv, hl⟩ := ilst_is H hm
  exact index_list_ints hl hv (lay0_ints hz hr) hk (h _ _ (H.toks _))
theorem list_ilst {Q : Value → Shared → Prop} (H : St B s l) (hm : ilst r xs ∈ l) (hz : xs.length ≤ 1000) (h : ∀ q s', St B s' (ilst q xs :: l) → Q (.ref q) s') : wpAny (model prog w) A (call (.type "list") [.ref r]) Q E s := by
  obtain ⟨o, ho, vs, n, rfl, hv⟩ := H.get hm
  refine call_list_seq r (.inl rfl) ho rfl rfl (fun h' c' hk hn => h _ _ (H.add rfl rfl rfl hk ⟨_, hn, vs, c', rfl, hv⟩ fun a ha => ?_)) (by rw [List.size_toArray, ints_len hv, sizeLine_eq]; (first | lia | omega))
  rw [List.mem_singleton.mp ha]
  exact Heap.get?_none_of_le (Nat.le_refl _)
theorem ints_of_at {vs : List Value} {xs : List Int} (hl : vs.length = xs.length) (h : ∀ i (hi : i < xs.length), ∃ t, vs[i]? = some (.int xs[i] t)) : IntsAre vs xs := by
  induction xs generalizing vs with
  | nil => cases vs with
    | nil => exact .nil
    | cons => simp at hl
  | cons x xs ih => cases vs with
    | nil => simp at hl
    | cons v vs =>
      obtain ⟨t, ht⟩ := h 0 (by simp)
      simp only [List.getElem?_cons_zero, Option.some.injEq, List.getElem_cons_zero] at ht
      subst ht
      refine .cons x t (ih (by simpa using hl) fun i hi => ?_)
      obtain ⟨t, ht⟩ := h (i + 1) (by simp; (first | lia | omega))
      exact ⟨t, by simpa using ht⟩
theorem list_rng {n : Nat} {Q : Value → Shared → Prop} (hh : A.handled = none) (H : St B s l) (hm : rng r 0 n ∈ l) (hz : n ≤ 1000) (h : ∀ q s', St B s' (ilst q ((List.range n).map fun (k : Nat) => (k : Int)) :: l) → Q (.ref q) s') : wpAny (model prog w) A (call (.type "list") [.ref r]) Q E s := by
  obtain ⟨o, ho, t, u, v, rfl⟩ := H.get hm
  refine call_list_range (a := 0) (b := n) (c := 1) (n := n) hh ho (small_one (by (first | lia | omega)) (by (first | lia | omega)) (by (first | lia | omega)) (by (first | lia | omega))) ?_ (by (first | lia | omega)) fun h' tk acc' c' hk hn hi => h _ _ (H.add rfl rfl rfl hk ⟨_, hn, acc'.toList, c', rfl, ?_⟩ fun a ha => ?_)
  · rw [rangeSize_one]; split <;> (first | lia | omega)
  · obtain ⟨h1, h2⟩ := hi
    refine ints_of_at (by simp [h1]) fun i hi => ?_
    have hi' : i < n := by simpa using hi
    have hlt : i < acc'.size := by (first | lia | omega)
    obtain ⟨t, e⟩ := h2 i _ (Array.getElem?_eq_getElem hlt)
    refine ⟨t, ?_⟩
    rw [Array.getElem?_toList, Array.getElem?_eq_getElem hlt, e]
    simp
  · rw [List.mem_singleton.mp ha]
    exact Heap.get?_none_of_le (Nat.le_refl _)
theorem sorted_itup {Q : Value → Shared → Prop} (H : St B s l) (hm : itup r xs ∈ l) (hz : xs.length < 64) (h : ∀ q ys s', St B s' (ilst q ys :: l) → ys.Perm xs → ys.Pairwise (· ≤ ·) → Q (.ref q) s') : wpAny (model prog w) A (call (.builtin "sorted") [.ref r]) Q E s := by
  obtain ⟨o, ho, vs, n, rfl, hv⟩ := H.get hm
  refine Calls.call_function_entry kind_sorted plain_sorted entry_sorted (args_sorted1 _) ?_
  unfold Builtin.«sorted»
  refine wpAny_bind (m := checkCount "sorted" 1 1 _) (wpAny_pure ?_)
  refine wpAny_bind (wpAny_collect_seq r (.inr rfl) ho rfl rfl (fun h₁ hk => ?_) (by rw [List.size_toArray, ints_len hv, sizeLine_eq]; (first | lia | omega)))
  refine wpAny_bind (wpAny_newList ?_ (by show vs.length ≤ sizeLine; rw [ints_len hv, sizeLine_eq]; (first | lia | omega)))
  have H1 : St B { s with heap := h₁ } l := H.same rfl rfl rfl hk
  have hoL : (h₁.push (seqObj "list" vs.toArray 0)).get? h₁.objs.size = some (seqObj "list" vs.toArray 0) := Heap.get?_push_size _ rfl
  refine wpAny_bind (wpAny_holding (wpAny_call_entry slot_list_sort ⟨_, hoL, rfl⟩ entry_list_sort (list_sort_tree hoL hv (by rw [ints_len hv]; exact hz) fun out ns' a1 a2 a3 => ⟨_, rfl, ?_⟩) (args_list_sort _)))
  refine wpAny_pure ⟨_, rfl, h _ ns' _ ?_ a2 a3⟩
  obtain ⟨e, he⟩ := sortedHeap_at (out := out) hoL
  refine H1.add (r' := ilst h₁.objs.size ns') rfl rfl rfl (fun b o q => ?_) ⟨_, he, out.toList, e, rfl, a1⟩ fun a ha => ?_
  · have hb := Heap.lt_size q
    exact (sortedHeap_old (Nat.ne_of_lt hb) (by rw [Heap.size_push]; exact Nat.lt_succ_of_lt hb)).trans (Heap.get?_push_of_some _ q)
  · rw [List.mem_singleton.mp ha]
    exact Heap.get?_none_of_le (Nat.le_refl _)
end
end
section
open PySem PySem.W PyProof.Rows PySem.Calls PySem.Spec
noncomputable def lastDef : List Stmt → List Stmt × Scope → List Stmt × Scope
  | [], d => d
  | .FunctionDef _ _ body _ _ _ sc _ _ _ :: r, _ => lastDef r (body, sc)
  | _ :: r, d => lastDef r d
noncomputable def lawD : List Stmt × Scope := lastDef PySem.Challenge.rw_xc0002_01.prog.main.body ([], { kind := .function, names := [], isGenerator := false, isCoroutine := false })
noncomputable def nth : List Stmt → Nat → Stmt
  | [], _ => .Pass default
  | x :: _, 0 => x
  | _ :: r, n + 1 => nth r n
noncomputable def lawS (i : Nat) : Stmt := nth lawD.1 i
noncomputable def lawSc : Scope := lawD.2
noncomputable abbrev lawE (L fa : Addr) : Env := envOfC (Str.ofString "law") lawSc L fa (.ref 162)
structure LawAt (w : World) (A : Around) (B : Bs) (mg : Str → Option Value) (L fa : Addr) : Prop where
  G : Gd (hd.heap_39 w.params) B.g
  dep : A.depth < 700
  hh : A.handled = none
  un : A.units < 8000
  fr : A.frames = some [lawE L fa]
  ln : Ln B.g mg 162 160
theorem law_frl {L fa : Addr} {fs : List (Str × Value)} {l : List Reg} (hm : frame L fs ∈ l) : FrL [lawE L fa] l :=
  FrL.cons (L := L) (by show lawSc.kind ≠ ScopeKind.module; rw [show lawSc.kind = ScopeKind.function from rfl]; decide) rfl hm fun _ h => nomatch h
noncomputable abbrev lawC (L : Addr) (needs deep order turn later ready sorter : Option Value) : List Reg :=
  [cellr (L + 1) needs, cellr (L + 1 + 1) deep, cellr (L + 1 + 1 + 1) order, cellr (L + 1 + 1 + 1 + 1) turn, cellr (L + 1 + 1 + 1 + 1 + 1) later, cellr (L + 1 + 1 + 1 + 1 + 1 + 1) ready, cellr (L + 1 + 1 + 1 + 1 + 1 + 1 + 1) sorter]
end
section
open PySem PySem.W PyProof.Rows PySem.Calls PySem.Spec
section
variable {prog : Program} {w : World} {A : Around} {E : Value → Shared → Prop} {s : Shared} {B : Bs} {l l' : List Reg} {e t : Addr} {a0 tb : Value} {env : Env}
theorem ga_args {expr : Bool} {Q : Value → Shared → Prop} (H : St B s l) (G : Gd (hd.heap_39 w.params) B.g) (hm : excr e (.ref 48) (.ref t) tb ∈ l) (h : ∀ s', St B s' l → Q (.ref t) s') :
    wpAny (model prog w) A (getAttr (.ref e) (Str.ofString "args") expr) Q E s := by
  obtain ⟨o, ho, hc, vs, hd, h0, h1, h2⟩ := H.get hm
  have hns : B.g.Ns 47 (B.g.nsMap 47) := .of_isNs (isNs_of_in G.K (by kernel_rfl))
  have hq : ∀ n ∈ quietNames, B.g.nsMap 47 n = none := fun n hn => by
    simp only [quietNames, List.mem_cons, List.not_mem_nil, or_false] at hn
    rcases hn with rfl | rfl | rfl | rfl
    · exact nsMap_none_of_in G.K (by kernel_rfl) (by k_is)
    · exact nsMap_none_of_in G.K (by kernel_rfl) (by k_is)
    · exact nsMap_none_of_in G.K (by kernel_rfl) (by k_is)
    · exact nsMap_none_of_in G.K (by kernel_rfl) (by k_is)
  obtain ⟨hp, g, d, tk, os⟩ := s
  exact args_attr_own PySem.F.attrBase_ValueError ((H.kin G) _ _ (ce_cls w.params)) (hns.keeps H.keep) hq .base ho hc hd h0 (h _ (H.toks (tk + 1)))
theorem sub_vtup {value slice : Expr} {k : Int} {u j : Nat} {vs : List Value} {v : Value} {Q : Value → Shared → Prop} (H : St B s l) (hm : vtup t vs ∈ l) (h0 : 0 ≤ k) (hk : k < 1000) (hj : seqIndex? k vs.length = some j) (hv : vs[j]? = some v) (h : Q v s)
    (hs : subscripted slice false (.ref t) (.int k u) = operate [.ref t, .int k u] (getItem (.ref t) (.int k u))) :
    wpAny (model prog w) A (subscriptTail value slice (.ref t) (.int k u)) Q E s := by
  obtain ⟨o, ho, n, rfl⟩ := H.get hm
  exact tail_any ⟨_, ho, rfl⟩ F.slot_tuple_getitem.lookup (getItem_tuple (items := vs.toArray) ⟨_, ho, rfl, n, rfl⟩ (by (first | lia | omega)) (by (first | lia | omega)) (by simpa using hj) (by simpa using hv) h) hs
theorem catch_own_as {tE : Expr} {n : Str} {b₀ : Stmt} {suite : List Stmt} {pos : Pos} {rest : List ExceptHandler} {Q : Flow → Shared → Prop}
    (h : wpAny (model prog w) (A.mark (some (.ref e))) (eval tE env) (fun c s₁ => c = .ref 48 ∧ (∃ B l a0 tb, St B s₁ l ∧ Gd (hd.heap_39 w.params) B.g ∧ excr e (.ref 48) a0 tb ∈ l) ∧
      wpAny (model prog w) (A.mark (some (.ref e))) (setFlight (.ref e) none) (fun _ s₂ =>
          wpAny (model prog w) (A.mark (some (.ref e))) (storeName env n (.ref e)) (fun _ s₃ =>
            wpAny (model prog w) (A.mark (some (.ref e))) (execs (b₀ :: suite) env)
              (fun f s₄ => wpAny (model prog w) A (do bindName env n .none; unbindBehindTheSuite env n pos) (fun _ s₅ => Q f s₅) E s₄) (fun _ _ => False) s₃) (fun _ _ => False) s₂) (fun _ _ => False) s₁) (fun _ _ => False) s) :
    wpAny (model prog w) A (handleBy (.ref e) env (.ExceptHandler (some tE) (some n) (b₀ :: suite) pos :: rest)) Q E s := by
  refine wpAny_handleBy_cons (codeAny_handlers_test (wpAny_mono h (fun c s₁ h₁ => ?_) fun _ _ y => y.elim)) (by intro q; cases q)
  obtain ⟨rfl, ⟨B, l, a0, tb, H, G, hm⟩, hk⟩ := h₁
  obtain ⟨o, ho, hc, vs, hd, h0, h1, h2⟩ := H.get hm
  obtain ⟨hh, g, d, tk, os⟩ := s₁
  exact wpAny_excMatches_sub_self ((H.kin G) _ _ (ce_cls w.params)) ho hc (by decide +kernel) (codeAny_handlers_suite_as (wpAny_mono hk (fun _ _ h2 => wpAny_mono h2 (fun _ _ h3 => wpAny_mono h3 (fun _ _ h4 => h4) fun _ _ y => y.elim) fun _ _ y => y.elim) fun _ _ y => y.elim))
theorem name_goes {n : Str} {pos : Pos} {L : Addr} {fs : List (Str × Value)} {Q : Unit → Shared → Prop} (H : St B s l) (R : Rep (frame L fs) (frame L []) l l') (hL : env.locals = L) (hl : env.kindOf n = some .local)
    (hp : (env.scope.kind == .class || (env.scope.kind == .module && env.locals != env.globals)) = false) (h : ∀ s', St B s' l' → Q () s') :
    wpAny (model prog w) A (do bindName env n .none; unbindBehindTheSuite env n pos) Q E s := by
  subst hL
  obtain ⟨m, hn, _⟩ := H.get R.mem
  refine wpAny_nameGoes hl hn hp fun h' m' hn' hs => h _ ?_
  refine H.rep R rfl rfl rfl (fun b o e nb => (hs.2 b fun z => nb (z ▸ .head _)).trans e) ⟨m', hn', fun _ _ e => by cases e⟩ fun _ ha => .inl ha
end
end
section
open PySem PySem.W PyProof.Rows PySem.Calls PySem.Spec
theorem turn_in (elt target iter : Expr) (g1 : Comprehension) (ifs : List Expr) (scope : Scope) (pos : Pos) (it acc : Value) (env : Env) :
    compTurn (.ListComp elt [g1, ⟨target, iter, ifs, 0⟩] scope pos) 1 it acc env = (do
      standAt iter.pos
      match ← pyNext it with
      | none => pure (.done .next)
      | some v =>
        letOwnedTupleGo target it v
        assign target env v
        let mut ok := true
        for c in ifs do
          if ok then ok ← isTrue c env (eval c env)
        if ok then
          (do let _ ← call (.builtin "list.append") [acc, ← eval elt env])
        again (.compLoop (.ListComp elt [g1, ⟨target, iter, ifs, 0⟩] scope pos) 1 it acc env)) := by rfl
theorem turn_out (elt target iter t2 i2 : Expr) (ifs2 : List Expr) (scope : Scope) (pos : Pos) (it acc : Value) (env : Env) :
    compTurn (.ListComp elt [⟨target, iter, [], 0⟩, ⟨t2, i2, ifs2, 0⟩] scope pos) 0 it acc env = (do
      standAt iter.pos
      match ← pyNext it with
      | none => pure (.done .next)
      | some v =>
        letOwnedTupleGo target it v
        assign target env v
        let mut ok := true
        for c in ([] : List Expr) do
          if ok then ok ← isTrue c env (eval c env)
        if ok then
          let x ← eval i2 env
          standAt i2.pos
          let x ← foldedSetIterable i2 env x
          let _ ← runOwn (.compStart (.ListComp elt [⟨target, iter, [], 0⟩, ⟨t2, i2, ifs2, 0⟩] scope pos) 1 (← holding [x] (pyIter x)) acc env) env
        again (.compLoop (.ListComp elt [⟨target, iter, [], 0⟩, ⟨t2, i2, ifs2, 0⟩] scope pos) 0 it acc env)) := by rfl
section
variable {prog : Program} {w : World} {A : Around} {B : Bs} {s : Shared} {l : List Reg} {it n : Nat} {itr : Nat → Reg} {P : Nat → Value → Prop} {D : List Reg → Prop} {E : Value → Shared → Prop}
theorem start_in {elt target iter ifs g1 scope pos it acc env} {R : Result → Shared → Prop}
    (h0 : codeAny (model prog w) A (.compLoop (.ListComp elt [g1, ⟨target, iter, ifs, 0⟩] scope pos) 1 it acc env) R s)
    (h : wpAny (model prog w) A (pyIter it) (fun it' s' => codeAny (model prog w) A (.compLoop (.ListComp elt [g1, ⟨target, iter, ifs, 0⟩] scope pos) 1 it' acc env) R s')
      (notedBy (model prog w) A env fun x s' => R (.error x) s') s) :
    codeAny (model prog w) A (.compStart (.ListComp elt [g1, ⟨target, iter, ifs, 0⟩] scope pos) 1 it acc env) R s := by
  refine codeAny_of_tree ?_
  show wpAny _ _ ((compStart (.ListComp elt [g1, ⟨target, iter, ifs, 0⟩] scope pos) 1 it acc env).onRaise (fun x => do noteFrame x env; standAt theWindowsPlace)) _ _ s
  refine wpAny_notedAt ?_
  unfold compStart
  show wpAny _ _ (ask >>= _) _ _ s
  refine wpAny_bind (wpAny_askSetting (wpAny_ite ?_))
  split
  · first
      | exact wpAny_bind (wpAny_pure (wpAny_pure (And.intro rfl h0)))
      | exact wpAny_pure (And.intro rfl h0)
  · first
      | exact wpAny_bind (wpAny_rule (wpAny_bind (wpAny_standAt (wpAny_bind (wpAny_mono h (fun it' s' h' => wpAny_pure (And.intro rfl h')) fun _ _ x => x)))))
      | (refine wpAny_bind (wpAny_rule ?_); show wpAny _ _ (standAt iter.pos >>= _) _ _ s; exact wpAny_bind (wpAny_standAt (wpAny_bind (wpAny_mono h (fun it' s' h' => wpAny_pure (And.intro rfl h')) fun _ _ x => x))))
set_option tactic.hygienic true in
theorem loop_in {elt iter : Expr} {x y : Str} {u : Value} {py : Pos} {g1 : Comprehension} {ifs : List Expr} {scope : Scope} {pos : Pos} {C : Addr} {acc : Value} {cenv : Env} {R : Result → Shared → Prop} (W : Itr prog w B A it n itr P D)
    (hC : cenv.locals = C) (hy : cenv.kindOf y = some .local) (hp : (cenv.scope.kind == .class || (cenv.scope.kind == .module && cenv.locals != cenv.globals)) = false) (hxy : (x == y) = false)
    (H : St B s (itr 0 :: frame C [(x, u)] :: l)) (hl : ∀ fs, D (frame C fs :: l))
    (turn : ∀ i v s₁, i < n → P i v → St B s₁ (frame C [(y, v), (x, u)] :: itr (i + 1) :: l) → wpAny (model prog w) A (testsOf ifs cenv) (fun ok s₃ => ok = false ∧ St B s₃ (frame C [(y, v), (x, u)] :: itr (i + 1) :: l)) (fun _ _ => False) s₁)
    (done : ∀ s₁, St B s₁ (frame C [(x, u)] :: l) → R (.ok .next) s₁) : codeAny (model prog w) A (.compLoop (.ListComp elt [g1, ⟨.Name y py, iter, ifs, 0⟩] scope pos) 1 (.ref it) acc cenv) R s := by
  subst hC
  refine codeAny_loop rfl (fun k s' => ∃ i, St B s' (itr i :: frame cenv.locals [(x, u)] :: l) ∧ i ≤ n ∧ k = n - i) (fun k s' hI => ?_) n ⟨0, H, Nat.zero_le _, rfl⟩
  show wpAny _ A ((compTurn (.ListComp elt [g1, ⟨.Name y py, iter, ifs, 0⟩] scope pos) 1 (.ref it) acc cenv).onRaise (fun x => do noteFrame x cenv; theTreesLotGoes x)) _ _ s'
  refine wpAny_noted ?_
  rw [turn_in]
  obtain ⟨i, H', hi, rfl⟩ := hI
  by_cases hlt : i < n
  · refine wpAny_bind (wpAny_standAt (wpAny_bind (W.next i _ s' _ _ hlt (hl _) H' fun v s'' hv H2 => ?_)))
    refine wpAny_bind (wpAny_pure ?_)
    have H3 : St B s'' (frame cenv.locals [(x, u)] :: itr (i + 1) :: l) := H2.perm (.swap ..)
    refine wpAny_bind (wpAny_assign_Name (store_l (env := cenv) H3 (fun s₂ H4 => ?_) hy hp))
    refine wpAny_bind (wpAny_mono (turn i v s₂ hlt hv H4) (fun ok s₃ h₃ => ?_) fun _ _ z => z.elim)
    obtain ⟨rfl, H5⟩ := h₃
    have H6 : St B s₃ (frame cenv.locals [(x, u)] :: itr (i + 1) :: l) := H5.reframe .here ⟨by rw [List.lookup_cons, hxy]; simp, trivial⟩
    exact wpAny_pure ⟨rfl, _, by (first | lia | omega), i + 1, H6.perm (.swap ..), hlt, rfl⟩
  · have hi' : i = n := by (first | lia | omega)
    subst hi'
    exact wpAny_bind (wpAny_standAt (wpAny_bind (W.fin _ s' _ _ (hl _) H' fun s'' H2 => wpAny_pure (done _ H2))))
set_option tactic.hygienic true in
theorem loop_out {elt iter t2 i2 : Expr} {ifs2 : List Expr} {x : Str} {px : Pos} {scope : Scope} {pos : Pos} {C : Addr} {acc : Value} {cenv : Env} {R : Result → Shared → Prop} (W : Itr prog w B A it n itr P D)
    (hC : cenv.locals = C) (hx : cenv.kindOf x = some .local) (hp : (cenv.scope.kind == .class || (cenv.scope.kind == .module && cenv.locals != cenv.globals)) = false)
    (hs : ∀ x, foldedSetIterable i2 cenv x = pure x)
    (H : St B s (itr 0 :: frame C [] :: l)) (hl : ∀ fs, D (frame C fs :: l))
    (turn : ∀ i v s₁, i < n → P i v → St B s₁ (frame C [(x, v)] :: itr (i + 1) :: l) → wpAny (model prog w) A (eval i2 cenv) (fun xv s₂ => wpAny (model prog w) A (pyIter xv) (fun iv s₃ =>
      codeAny (model prog w) A (.compStart (.ListComp elt [⟨.Name x px, iter, [], 0⟩, ⟨t2, i2, ifs2, 0⟩] scope pos) 1 iv acc cenv) (fun r s₄ => r = .ok .next ∧ St B s₄ (frame C [(x, v)] :: itr (i + 1) :: l)) s₃) (fun _ _ => False) s₂) (fun _ _ => False) s₁)
    (done : ∀ s₁, St B s₁ (frame C [] :: l) → R (.ok .next) s₁) : codeAny (model prog w) A (.compLoop (.ListComp elt [⟨.Name x px, iter, [], 0⟩, ⟨t2, i2, ifs2, 0⟩] scope pos) 0 (.ref it) acc cenv) R s := by
  subst hC
  refine codeAny_loop rfl (fun k s' => ∃ i, St B s' (itr i :: frame cenv.locals [] :: l) ∧ i ≤ n ∧ k = n - i) (fun k s' hI => ?_) n ⟨0, H, Nat.zero_le _, rfl⟩
  show wpAny _ A ((compTurn (.ListComp elt [⟨.Name x px, iter, [], 0⟩, ⟨t2, i2, ifs2, 0⟩] scope pos) 0 (.ref it) acc cenv).onRaise (fun x => do noteFrame x cenv; theTreesLotGoes x)) _ _ s'
  refine wpAny_noted ?_
  rw [turn_out]
  obtain ⟨i, H', hi, rfl⟩ := hI
  by_cases hlt : i < n
  · refine wpAny_bind (wpAny_standAt (wpAny_bind (W.next i _ s' _ _ hlt (hl _) H' fun v s'' hv H2 => ?_)))
    refine wpAny_bind (wpAny_pure ?_)
    have H3 : St B s'' (frame cenv.locals [] :: itr (i + 1) :: l) := H2.perm (.swap ..)
    refine wpAny_bind (wpAny_assign_Name (store_l (env := cenv) H3 (fun s₂ H4 => ?_) hx hp))
    refine wpAny_bind (wpAny_pure ?_)
    refine wpAny_bind (wpAny_mono (turn i v s₂ hlt hv H4) (fun xv s₃ h₃ => ?_) fun _ _ z => z.elim)
    refine wpAny_bind (wpAny_standAt (wpAny_bind (wpAny_of_eq (hs xv) (wpAny_bind (wpAny_holding (wpAny_mono h₃ (fun iv s₄ h₄ => ?_) fun _ _ z => z.elim))))))
    refine wpAny_bind (wpAny_runOwn (codeAny_mono h₄ fun r s₅ hr => ?_))
    obtain ⟨rfl, H5⟩ := hr
    have H6 : St B s₅ (frame cenv.locals [] :: itr (i + 1) :: l) := H5.reframe .here trivial
    first
      | exact wpAny_pure ⟨rfl, _, by (first | lia | omega), i + 1, H6.perm (.swap ..), hlt, rfl⟩
      | exact wpAny_pure (wpAny_pure ⟨rfl, _, by (first | lia | omega), i + 1, H6.perm (.swap ..), hlt, rfl⟩)
  · have hi' : i = n := by (first | lia | omega)
    subst hi'
    exact wpAny_bind (wpAny_standAt (wpAny_bind (W.fin _ s' _ _ (hl _) H' fun s'' H2 => wpAny_pure (done _ H2))))
noncomputable def Comp2 (prog : Program) (w : World) (A : Around) (E : Value → Shared → Prop) (Q : Value → Shared → Prop) (env : Env) (e : Expr) (scope : Scope) (cl : List (Str × Addr)) (it : Value) (s₂ : Shared) : Prop :=
  wpAny (model prog w) A (newList []) (fun acc s₃ => wpAny (model prog w) A (newFunctionEnv scope env.globals cl [] env.qual none .none (some env)) (fun cenv s₄ =>
    codeAny (model prog w) A (.compStart e 0 it acc { cenv with scope := relabel scope env }) (compPost (model prog w) A E none Q acc cenv.locals) s₄) E s₃) E s₂
theorem comp2_eval {elt iter : Expr} {g2 : Comprehension} {x : Str} {px : Pos} {scope : Scope} {cl : List (Str × Addr)} {pos : Pos} {env : Env} {Q : Value → Shared → Prop}
    (h : wpAny (model prog w) A (eval iter env) (fun xv s₁ => wpAny (model prog w) A (pyIter xv) (fun itv s₂ => Comp2 prog w A E Q env (.ListComp elt [⟨.Name x px, iter, [], 0⟩, g2] scope pos) scope cl itv s₂) E s₁) E s)
    (hclos : closureFor scope env = pure cl) (hkind : scope.kind = .function) (hnames : ∀ y ∈ scope.names, y.2 = .local → scope.names.lookup y.1 = some .local)
    (hs : ∀ x, foldedSetIterable iter env x = pure x) : wpAny (model prog w) A (eval (.ListComp elt [⟨.Name x px, iter, [], 0⟩, g2] scope pos) env) Q E s := by
  rw [eval_ListComp]
  exact wpAny_comprehension_free (use := none) rfl hs hclos hkind hnames h
set_option tactic.hygienic true in
theorem comp2_done {elt iter t2 i2 : Expr} {ifs2 : List Expr} {x : Str} {px : Pos} {scope : Scope} {cl : List (Str × Addr)} {pos : Pos} {env : Env} {Q : Value → Shared → Prop}
    (W : Itr prog w B A it n itr P D) (H : St B s (itr 0 :: l)) (hl : ∀ C D₀ fs, D (frame C fs :: vlst D₀ [] :: l))
    (turn : ∀ C D₀ i v s₁, i < n → P i v → St B s₁ (frame C [(x, v)] :: itr (i + 1) :: vlst D₀ [] :: l) → wpAny (model prog w) A (eval i2 (compEnvC scope cl C env)) (fun xv s₂ => wpAny (model prog w) A (pyIter xv) (fun iv s₃ =>
      codeAny (model prog w) A (.compStart (.ListComp elt [⟨.Name x px, iter, [], 0⟩, ⟨t2, i2, ifs2, 0⟩] scope pos) 1 iv (.ref D₀) (compEnvC scope cl C env)) (fun r s₄ => r = .ok .next ∧ St B s₄ (frame C [(x, v)] :: itr (i + 1) :: vlst D₀ [] :: l)) s₃) (fun _ _ => False) s₂) (fun _ _ => False) s₁)
    (done : ∀ D₀ s₁, St B s₁ (vlst D₀ [] :: l) → Q (.ref D₀) s₁)
    (hs : ∀ C x, foldedSetIterable i2 (compEnvC scope cl C env) x = pure x)
    (hcell : ∀ y ∈ scope.names, y.2 ≠ .cell) (hkind : scope.kind = .function) (hx : scope.names.lookup x = some .local) :
    Comp2 prog w A E Q env (.ListComp elt [⟨.Name x px, iter, [], 0⟩, ⟨t2, i2, ifs2, 0⟩] scope pos) scope cl (.ref it) s := by
  unfold Comp2
  refine wpAny_newObj_type (wpAny_newFunctionEnv hcell (by intro y hy; simp at hy) (fun h₁ hns₁ hsb₁ => ?_) hkind)
  have H1 : St B { s with heap := s.heap.push { cls := .type "list", dict := none, data := .seq ([] : List Value).toArray } } (vlst s.heap.objs.size [] :: itr 0 :: l) := H.new1 rfl ⟨0, rfl⟩
  revert H1 hns₁ hsb₁
  generalize s.heap.objs.size = D₀
  generalize ({ s with heap := s.heap.push { cls := .type "list", dict := none, data := .seq ([] : List Value).toArray } } : Shared) = s₁
  intro hns₁ hsb₁ H1
  have hk₁ : ∀ b o, s₁.heap.get? b = some o → h₁.get? b = some o := fun b o e => hsb₁.extBut b o (Nat.ne_of_lt (Heap.lt_size e)) (Heap.get?_push_of_some _ e)
  have H2 : St B { s₁ with heap := h₁, toks := s₁.toks + ([] : List (Str × Value)).length } (frame s₁.heap.objs.size [] :: vlst D₀ [] :: itr 0 :: l) := by
    refine H1.add rfl rfl rfl (fun a o e => hk₁ a o e) ⟨_, hns₁, fun x v e => by cases e⟩ fun a ha => ?_
    rw [List.mem_singleton.mp ha]
    exact Heap.get?_none_of_le (Nat.le_refl _)
  revert H2
  generalize ({ s₁ with heap := h₁, toks := s₁.toks + ([] : List (Str × Value)).length } : Shared) = s₂
  generalize hC : s₁.heap.objs.size = C
  intro H2
  have H3 : St B s₂ (itr 0 :: frame C [] :: vlst D₀ [] :: l) := H2.perm ((List.Perm.cons _ (.swap ..)).trans (.swap ..))
  have loop : codeAny (model prog w) A (.compLoop (.ListComp elt [⟨.Name x px, iter, [], 0⟩, ⟨t2, i2, ifs2, 0⟩] scope pos) 0 (.ref it) (.ref D₀) (compEnvC scope cl C env)) (compPost (model prog w) A E none Q (.ref D₀) C) s₂ := by
    refine loop_out (cenv := compEnvC scope cl C env) (l := vlst D₀ [] :: l) W rfl (lookup_relabel_local hx) (by simp [compEnvC, relabel, hkind]) (hs C) H3 (fun fs => hl C D₀ fs) (turn C D₀) fun s₃ H4 => ?_
    obtain ⟨m, hm, _⟩ := H4.head
    exact ⟨m, hm, fun h' hs => done D₀ _ (H4.drop rfl rfl rfl fun a o e na => (hs.2 a fun z => na (by show a ∈ [C]; rw [z]; exact .head _)).trans e)⟩
  exact codeAny_compStart_list loop (W.self 0 _ _ _ _ H3 loop)
end
end
section
open PySem PySem.W PyProof.Rows PySem.Calls PySem.Spec
theorem posts_named {M : Model} {A : Around} {α : Type} {c : Sem α} {Q : α → Shared → Prop} {E : Value → Shared → Prop} {s : Shared} (h : ∀ Q0 E0, Q0 = Q → E0 = E → wpAny M A c Q0 E0 s) : wpAny M A c Q E s := h Q E rfl rfl
theorem post_named {M : Model} {A : Around} {α : Type} {c : Sem α} {Q : α → Shared → Prop} {E : Value → Shared → Prop} {s : Shared} (h : ∀ Q0, Q0 = Q → wpAny M A c Q0 E s) : wpAny M A c Q E s := h Q rfl
set_option tactic.hygienic true in
theorem execs_mid {M : Model} {A : Around} {E : Value → Shared → Prop} {s : Shared} {env : Env} {st : Stmt} {rest : List Stmt} {Q : Flow → Shared → Prop} (J : Shared → Prop) (h1 : wpAny M A (exec st env) (fun f s₁ => match f with | .next => J s₁ | f => Q f s₁) E s)
    (h2 : ∀ s₁, J s₁ → wpAny M A (execs rest env) Q E s₁) : wpAny M A (execs (st :: rest) env) Q E s :=
  wpAny_execs_cons (wpAny_mono h1 (fun f s₁ h => by cases f <;> first | exact h2 s₁ h | exact h) fun _ _ x => x)
end
section
open PySem PySem.W PyProof.Rows
/-! the cells of law's and other defs' names -/
noncomputable abbrev cel1 (L : Addr) : Option Value → Reg := cellr (L + 1)
noncomputable abbrev cel2 (L : Addr) : Option Value → Reg := cellr (L + 1 + 1)
noncomputable abbrev cel3 (L : Addr) : Option Value → Reg := cellr (L + 1 + 1 + 1)
noncomputable abbrev cel4 (L : Addr) : Option Value → Reg := cellr (L + 1 + 1 + 1 + 1)
noncomputable abbrev cel5 (L : Addr) : Option Value → Reg := cellr (L + 1 + 1 + 1 + 1 + 1)
noncomputable abbrev cel6 (L : Addr) : Option Value → Reg := cellr (L + 1 + 1 + 1 + 1 + 1 + 1)
noncomputable abbrev cel7 (L : Addr) : Option Value → Reg := cellr (L + 1 + 1 + 1 + 1 + 1 + 1 + 1)
/-! the sorter's parts -/
noncomputable abbrev tsi (S : Lay) : Reg := tsI S.a S.d
noncomputable abbrev tsd (w : World) (S : Lay) : Value → Value → Value → Reg := tsD w.params S.d (.ref S.n)
noncomputable abbrev nis (S : Lay) (np : Nat → Int) : Reg := many 6 (ni S np)
noncomputable abbrev sls (S : Lay) (succ : Nat → List Int) : Reg := many 6 (sl S succ)
end
section
open PySem PySem.W PyProof.Rows PySem.Calls PySem.Spec
section
variable {prog : Program} {w : World} {A : Around} {s : Shared} {B : Bs} {l : List Reg} {S : Lay} {R : Result → Shared → Prop} {xs : List Int} {r : Addr} {out fin : Int} {t3 t4 : Nat} {np : Nat → Int} {succ : Nat → List Int}
set_option tactic.hygienic true in
theorem get_ready_ok (H : St B s (tsi S :: tsd w S (.ref r) (.int out t3) (.int fin t4) :: n2i S 6 :: nis S np :: sls S succ :: ilst r xs :: l)) (G : Gd (hd.heap_39 w.params) B.g)
    (hx : ∀ x ∈ xs, 0 ≤ x ∧ x < 6) (hz : xs.length ≤ 1000) (hA : A.depth < 900) (hh : A.handled = none)
    (hq : ∀ t t3' s', St B s' (itup t xs :: tsi S :: tsd w S (.ref r) (.int (out + xs.length) t3') (.int fin t4) :: n2i S 6 :: nis S (fun k => if (k : Int) ∈ xs then -1 else np k) :: sls S succ :: ilst r [] :: l) → R (.ok (.ret (.ref t))) s') :
    codeAny (model prog w) A (.call (.ref 92) ⟨[.ref S.a], []⟩) R s := by
  refine sl_call0 (binds := [(Str.ofString "self", .ref S.a)]) (fs := [(Str.ofString "self", .ref S.a)]) H G (by k_is) (by k_is) (Nat.lt_trans hA (by decide)) (BindsTo.of_eq rfl) (locs rfl) rfl (fun L s1 H1 => ?_) (by rfl) (by rfl) (by rfl) (by decide)
  (with_reducible refine wpAny_execs_cons ?_); (with_reducible refine wpAny_If ?_); (with_reducible refine wpAny_isTrue_Compare1 ?_); (with_reducible refine Attribute_any_ ?_); (with_reducible show wpAny _ _ (eval (Expr.Name _ _) (envOf _ _ _ _ _)) _ _ _); refine nm_l (by with_reducible assumption) (by with_reducible exact mem_0) (by rfl) ?_ (by rfl) (by rfl) (by decide); (with_reducible show wpAny _ _ (getAttr (Value.ref _) (Str.ofString "_ready_nodes") _) _ _ _); refine ga_ready (by with_reducible assumption) (by with_reducible assumption) (by with_reducible exact mem_1) (by with_reducible exact mem_2) rfl ?_; intro _ _; (with_reducible refine wpAny_Constant_none ?_); (with_reducible refine is_none ?_); (with_reducible refine wpAny_truthy_bool ?_)
  refine b_ff ?_ (by rfl)
  (with_reducible refine wpAny_execs_nil ?_); dsimp only; (with_reducible refine wpAny_execs_cons ?_); (with_reducible show wpAny _ _ (exec (Stmt.Assign [Expr.Name _ _] _ _) _) _ _ _); refine wpAny_Assign_Name ?_; dsimp only; (with_reducible show wpAny _ _ (eval (Expr.Call (Expr.Name _ _) _ _ _) _) _ _ _); refine wpAny_Call_ofName ?_; (with_reducible show wpAny _ _ (eval (Expr.Name _ _) (envOf _ _ _ _ _)) _ _ _); refine nm_b (v := .type "tuple") (by with_reducible assumption) (by with_reducible assumption) (by k_is) (by rfl) ?_ (by decide) (by rfl) (by rfl) (by decide); (with_reducible show wpAny _ _ (callWith _ (Value.type _) _ (backTo _ (starEach (_ :: _) _)) _) _ _ _); refine cw_mach ?_ (by rfl) (by rfl) (by rfl) (by rfl); (with_reducible show wpAny _ _ (spliced (backTo _ (starEach (_ :: _) _))) _ _ _); refine wpAny_items_cons ?_; (with_reducible refine Attribute_any_ ?_); (with_reducible show wpAny _ _ (eval (Expr.Name _ _) (envOf _ _ _ _ _)) _ _ _); refine nm_l (by with_reducible assumption) (by with_reducible exact mem_0) (by rfl) ?_ (by rfl) (by rfl) (by decide); (with_reducible show wpAny _ _ (getAttr (Value.ref _) (Str.ofString "_ready_nodes") _) _ _ _); refine ga_ready (by with_reducible assumption) (by with_reducible assumption) (by with_reducible exact mem_1) (by with_reducible exact mem_2) rfl ?_; intro _ _; (with_reducible show wpAny _ _ (spliced (backTo _ (starEach [] _))) _ _ _); refine wpAny_items_nil ?_
  refine tuple_ilst (by assumption) (by with_reducible exact mem_6) hz ?_
  intro t s2 H2
  (with_reducible show wpAny _ _ (storeName _ _ _) _ _ _); refine st_l (by with_reducible assumption) (by with_reducible exact rep_1) ?_ (by rfl) (by rfl); intro _ _; (with_reducible refine wpAny_execs_cons ?_); (with_reducible show wpAny _ _ (exec (Stmt.Assign [Expr.Name _ _] _ _) _) _ _ _); refine wpAny_Assign_Name ?_; dsimp only; (with_reducible refine Attribute_any_ ?_); (with_reducible show wpAny _ _ (eval (Expr.Name _ _) (envOf _ _ _ _ _)) _ _ _); refine nm_l (by with_reducible assumption) (by with_reducible exact mem_1) (by rfl) ?_ (by rfl) (by rfl) (by decide); (with_reducible show wpAny _ _ (getAttr (Value.ref _) (Str.ofString "_node2info") _) _ _ _); refine ga_n2i (by with_reducible assumption) (by with_reducible assumption) (by with_reducible exact mem_2) (by with_reducible exact mem_3) rfl ?_; intro _ _; (with_reducible show wpAny _ _ (storeName _ _ _) _ _ _); refine st_l (by with_reducible assumption) (by with_reducible exact rep_1) ?_ (by rfl) (by rfl); intro _ _; (with_reducible refine wpAny_execs_cons ?_); (with_reducible show wpAny _ _ (exec (Stmt.For _ _ _ _ _) _) _ _ _); refine wpAny_For ?_; (with_reducible show wpAny _ _ (eval (Expr.Name _ _) (envOf _ _ _ _ _)) _ _ _); refine nm_l (by with_reducible assumption) (by with_reducible exact mem_1) (by rfl) ?_ (by rfl) (by rfl) (by decide)
  refine iter_itup (by assumption) (by with_reducible exact mem_0) ?_
  intro it s3 H3
  refine for_itup (xs := xs) (I := fun i l' => l' = itup t xs :: frame L [(Str.ofString "n2i", .ref S.n), (Str.ofString "result", .ref t), (Str.ofString "self", .ref S.a)] :: tsi S :: tsd w S (.ref r) (.int out t3) (.int fin t4) :: n2i S 6
    :: nis S (fun k => if (k : Int) ∈ xs.take i then -1 else np k) :: sls S succ :: ilst r xs :: l) hh H3 (by simp) (fun i l' e => by subst e; exact .head _) ?_ ?_
  · rintro i tk l₁ s₁ hi rfl H4
    obtain ⟨h0, h6⟩ := hx xs[i] (List.getElem_mem hi)
    (with_reducible refine wpAny_assign_Name ?_); dsimp only; (with_reducible show wpAny _ _ (storeName _ _ _) _ _ _); refine st_l (by with_reducible assumption) (by with_reducible exact rep_2) ?_ (by rfl) (by rfl); intro _ _; (with_reducible refine wpAny_execs_cons ?_); (with_reducible show wpAny _ _ (exec (Stmt.Assign [Expr.Attribute _ _ _] _ _) _) _ _ _); refine plainObj_wpAny_Assign_Attribute ?_; dsimp only; (with_reducible show wpAny _ _ (eval (Expr.Name _ _) (envOf _ _ _ _ _)) _ _ _); refine nm_g (by with_reducible assumption) (by with_reducible assumption) (by k_is) ?_ (by rfl) (by rfl) (by decide); (with_reducible refine Subscript_ ?_); (with_reducible show wpAny _ _ (eval (Expr.Name _ _) (envOf _ _ _ _ _)) _ _ _); refine nm_l (by with_reducible assumption) (by with_reducible exact mem_2) (by rfl) ?_ (by rfl) (by rfl) (by decide); (with_reducible show wpAny _ _ (eval (Expr.Name _ _) (envOf _ _ _ _ _)) _ _ _); refine nm_l (by with_reducible assumption) (by with_reducible exact mem_2) (by rfl) ?_ (by rfl) (by rfl) (by decide); (with_reducible show wpAny _ _ (subscriptTail _ _ (Value.ref (Lay.n _)) (Value.int _ _)) _ _ _); refine sub_n2i (by with_reducible assumption) (by with_reducible exact mem_5) (by with_reducible assumption) (by (first | lia | omega)) ?_ (by with_unfolding_all rfl); intro _ _
    refine sa_np (np' := fun k => if (k : Int) ∈ xs.take (i + 1) then -1 else np k) (by assumption) (by assumption) (by with_reducible exact rep_6) (by (first | lia | omega)) ?_ ?_ ?_
    · have e : ((xs[i].toNat : Nat) : Int) = xs[i] := by (first | lia | omega)
      (try dsimp only)
      rw [e, if_pos (List.mem_take_iff_getElem.mpr ⟨i, by (first | lia | omega), rfl⟩)]
    · intro j hj
      have e : ((j : Nat) : Int) ≠ xs[i] := by (first | lia | omega)
      have q : (j : Int) ∈ xs.take (i + 1) ↔ (j : Int) ∈ xs.take i := by
        rw [List.take_succ_eq_append_getElem hi, List.mem_append, List.mem_singleton]
        exact ⟨fun h => h.resolve_right e, .inl⟩
      simp only [q]
    · intro s5 H5
      (with_reducible refine wpAny_execs_nil ?_); dsimp only
      exact ⟨_, rfl, H5.forget (by with_reducible exact rep_2)⟩
  · rintro l₁ s₁ rfl H4
    dsimp only
    (with_reducible refine wpAny_execs_cons ?_); (with_reducible show wpAny _ _ (exec (Stmt.Expr _ _) _) _ _ _); refine wpAny_Expr_any ?_; dsimp only; (with_reducible show wpAny _ _ (eval (Expr.Call (Expr.Attribute _ _ _) _ _ _) _) _ _ _); refine MethodCall_ ?_; (with_reducible refine Attribute_any_ ?_); (with_reducible show wpAny _ _ (eval (Expr.Name _ _) (envOf _ _ _ _ _)) _ _ _); refine nm_l (by with_reducible assumption) (by with_reducible exact mem_1) (by rfl) ?_ (by rfl) (by rfl) (by decide); (with_reducible show wpAny _ _ (getAttr (Value.ref _) (Str.ofString "_ready_nodes") _) _ _ _); refine ga_ready (by with_reducible assumption) (by with_reducible assumption) (by with_reducible exact mem_2) (by with_reducible exact mem_3) rfl ?_; intro _ _; (with_reducible show wpAny _ _ (getMethod (Value.ref _) (Str.ofString "clear") _) _ _ _); refine gm_list (by with_reducible assumption) (by with_reducible exact mem_7) F.slot_list_clear (by kernel_rfl) ?_; dsimp only; (with_reducible show wpAny _ _ (callWith _ (Value.builtin _) _ (backTo _ (starEach [] _)) _) _ _ _); refine cw_mach0 ?_ (by rfl) (by rfl); (with_reducible show wpAny _ _ (call (Value.builtin "list.clear") _) _ _ _); refine clear_ilst (by with_reducible assumption) (by with_reducible exact rep_7) (by with_reducible assumption) ?_; intro _ _; (with_reducible refine wpAny_execs_cons ?_); (with_reducible refine wpAny_AugAssign_AttributeAny ?_); dsimp only; (with_reducible show wpAny _ _ (eval (Expr.Name _ _) (envOf _ _ _ _ _)) _ _ _); refine nm_l (by with_reducible assumption) (by with_reducible exact mem_1) (by rfl) ?_ (by rfl) (by rfl) (by decide); (with_reducible show wpAny _ _ (getAttr (Value.ref _) (Str.ofString "_npassedout") _) _ _ _); refine ga_out (by with_reducible assumption) (by with_reducible assumption) (by with_reducible exact mem_2) (by with_reducible exact mem_3) rfl ?_; intro _ _; (with_reducible show wpAny _ _ (eval (Expr.Call (Expr.Name _ _) _ _ _) _) _ _ _); refine wpAny_Call_ofName ?_; (with_reducible show wpAny _ _ (eval (Expr.Name _ _) (envOf _ _ _ _ _)) _ _ _); refine nm_b (v := .builtin "len") (by with_reducible assumption) (by with_reducible assumption) (by k_is) (by rfl) ?_ (by decide) (by rfl) (by rfl) (by decide); (with_reducible show wpAny _ _ (callWith _ (Value.builtin _) _ (backTo _ (starEach (_ :: _) _)) _) _ _ _); refine cw_mach ?_ (by rfl) (by rfl) (by rfl) (by rfl); (with_reducible show wpAny _ _ (spliced (backTo _ (starEach (_ :: _) _))) _ _ _); refine wpAny_items_cons ?_; (with_reducible show wpAny _ _ (eval (Expr.Name _ _) (envOf _ _ _ _ _)) _ _ _); refine nm_l (by with_reducible assumption) (by with_reducible exact mem_1) (by rfl) ?_ (by rfl) (by rfl) (by decide); (with_reducible show wpAny _ _ (spliced (backTo _ (starEach [] _))) _ _ _); refine wpAny_items_nil ?_; (with_reducible show wpAny _ _ (call (Value.builtin "len") _) _ _ _); refine len_itup (by with_reducible assumption) (by with_reducible exact mem_0) (by with_reducible assumption) ?_; intro _ _ _; (with_reducible show wpAny _ _ (inplaceOp .Add (Value.int _ _) (Value.int _ _)) _ _ _); refine ii_add (by with_reducible assumption) ?_; intro _ _ _; (with_reducible show wpAny _ _ (setAttr (Value.ref _) (Str.ofString "_npassedout") _) _ _ _); refine sa_out (by with_reducible assumption) (by with_reducible assumption) (by with_reducible exact mem_2) (by with_reducible exact rep_3) ?_; intro _ _; (with_reducible refine wpAny_execs_cons ?_); (with_reducible refine wpAny_Return_some ?_); dsimp only; (with_reducible show wpAny _ _ (eval (Expr.Name _ _) (envOf _ _ _ _ _)) _ _ _); refine nm_l (by with_reducible assumption) (by with_reducible exact mem_1) (by rfl) ?_ (by rfl) (by rfl) (by decide)
    rename_i H9
    rw [List.take_length] at H9
    exact hq _ _ _ (H9.sub (by exact sub_of [true, false] rfl))
end
end
section
open PySem PySem.W PyProof.Rows PySem.Calls PySem.Spec
section
variable {prog : Program} {w : World} {A : Around} {s : Shared} {B : Bs} {l : List Reg} {S : Lay} {R : Result → Shared → Prop} {xs : List Int} {r : Addr} {out fin : Int} {t3 t4 : Nat} {np : Nat → Int} {succ : Nat → List Int}
theorem is_active_ok (H : St B s (tsi S :: tsd w S (.ref r) (.int out t3) (.int fin t4) :: n2i S 6 :: nis S np :: sls S succ :: ilst r xs :: l)) (G : Gd (hd.heap_39 w.params) B.g)
    (hz : xs.length ≤ 1000) (hA : A.depth < 900)
    (hq : ∀ s', St B s' (tsi S :: tsd w S (.ref r) (.int out t3) (.int fin t4) :: n2i S 6 :: nis S np :: sls S succ :: ilst r xs :: l) → R (.ok (.ret (.bool (decide (fin < out) || !xs.isEmpty)))) s') :
    codeAny (model prog w) A (.call (.ref 99) ⟨[.ref S.a], []⟩) R s := by
  have hq' : ∀ b s', (decide (fin < out) || !xs.isEmpty) = b → St B s' (tsi S :: tsd w S (.ref r) (.int out t3) (.int fin t4) :: n2i S 6 :: nis S np :: sls S succ :: ilst r xs :: l) → R (.ok (.ret (.bool b))) s' := fun b s' e h => e ▸ hq s' h
  refine sl_call0 (binds := [(Str.ofString "self", .ref S.a)]) (fs := [(Str.ofString "self", .ref S.a)]) H G (by k_is) (by k_is) (Nat.lt_trans hA (by decide)) (BindsTo.of_eq rfl) (locs rfl) rfl (fun L s1 H1 => ?_) (by rfl) (by rfl) (by rfl) (by decide)
  (with_reducible refine wpAny_execs_cons ?_); (with_reducible refine wpAny_If ?_); (with_reducible refine wpAny_isTrue_Compare1 ?_); (with_reducible refine Attribute_any_ ?_); (with_reducible show wpAny _ _ (eval (Expr.Name _ _) (envOf _ _ _ _ _)) _ _ _); refine nm_l (by with_reducible assumption) (by with_reducible exact mem_0) (by rfl) ?_ (by rfl) (by rfl) (by decide); (with_reducible show wpAny _ _ (getAttr (Value.ref _) (Str.ofString "_ready_nodes") _) _ _ _); refine ga_ready (by with_reducible assumption) (by with_reducible assumption) (by with_reducible exact mem_1) (by with_reducible exact mem_2) rfl ?_; intro _ _; (with_reducible refine wpAny_Constant_none ?_); (with_reducible refine is_none ?_); (with_reducible refine wpAny_truthy_bool ?_)
  refine b_ff ?_ (by rfl)
  (with_reducible refine wpAny_execs_nil ?_); dsimp only; (with_reducible refine wpAny_execs_cons ?_); (with_reducible refine wpAny_Return_some ?_); dsimp only; (with_reducible refine wpAny_Or2 ?_); (with_reducible refine wpAny_Compare1 ?_); (with_reducible refine Attribute_any_ ?_); (with_reducible show wpAny _ _ (eval (Expr.Name _ _) (envOf _ _ _ _ _)) _ _ _); refine nm_l (by with_reducible assumption) (by with_reducible exact mem_0) (by rfl) ?_ (by rfl) (by rfl) (by decide); (with_reducible show wpAny _ _ (getAttr (Value.ref _) (Str.ofString "_nfinished") _) _ _ _); refine ga_fin (by with_reducible assumption) (by with_reducible assumption) (by with_reducible exact mem_1) (by with_reducible exact mem_2) rfl ?_; intro _ _; (with_reducible refine Attribute_any_ ?_); (with_reducible show wpAny _ _ (eval (Expr.Name _ _) (envOf _ _ _ _ _)) _ _ _); refine nm_l (by with_reducible assumption) (by with_reducible exact mem_0) (by rfl) ?_ (by rfl) (by rfl) (by decide); (with_reducible show wpAny _ _ (getAttr (Value.ref _) (Str.ofString "_npassedout") _) _ _ _); refine ga_out (by with_reducible assumption) (by with_reducible assumption) (by with_reducible exact mem_1) (by with_reducible exact mem_2) rfl ?_; intro _ _; (with_reducible refine PyProof.Rows.lt_int ?_); (with_reducible refine wpAny_truthy_bool ?_)
  refine b_split (fun hc => ?_) (fun hc => ?_)
  · exact hq' _ _ (by rw [hc]; rfl) (St.sub (by assumption) (by exact sub_of [false] rfl))
  · (with_reducible show wpAny _ _ (eval (Expr.Call (Expr.Name _ _) _ _ _) _) _ _ _); refine wpAny_Call_ofName ?_; (with_reducible show wpAny _ _ (eval (Expr.Name _ _) (envOf _ _ _ _ _)) _ _ _); refine nm_b (v := .type "bool") (by with_reducible assumption) (by with_reducible assumption) (by k_is) (by rfl) ?_ (by decide) (by rfl) (by rfl) (by decide); (with_reducible show wpAny _ _ (callWith _ (Value.type _) _ (backTo _ (starEach (_ :: _) _)) _) _ _ _); refine cw_mach ?_ (by rfl) (by rfl) (by rfl) (by rfl); (with_reducible show wpAny _ _ (spliced (backTo _ (starEach (_ :: _) _))) _ _ _); refine wpAny_items_cons ?_; (with_reducible refine Attribute_any_ ?_); (with_reducible show wpAny _ _ (eval (Expr.Name _ _) (envOf _ _ _ _ _)) _ _ _); refine nm_l (by with_reducible assumption) (by with_reducible exact mem_0) (by rfl) ?_ (by rfl) (by rfl) (by decide); (with_reducible show wpAny _ _ (getAttr (Value.ref _) (Str.ofString "_ready_nodes") _) _ _ _); refine ga_ready (by with_reducible assumption) (by with_reducible assumption) (by with_reducible exact mem_1) (by with_reducible exact mem_2) rfl ?_; intro _ _; (with_reducible show wpAny _ _ (spliced (backTo _ (starEach [] _))) _ _ _); refine wpAny_items_nil ?_; (with_reducible show wpAny _ _ (call (Value.type "bool") _) _ _ _); refine bool_ilst (by with_reducible assumption) (by with_reducible exact mem_6) (by with_reducible assumption) ?_; intro _ _
    exact hq' _ _ (by rw [hc]; rfl) (St.sub (by assumption) (by exact sub_of [false] rfl))
end
end
section
open PySem PySem.W PyProof.Rows PySem.Calls PySem.Spec
section
variable {prog : Program} {w : World} {A : Around} {s : Shared} {B : Bs} {l : List Reg} {S : Lay} {R : Result → Shared → Prop} {xs rdy : List Int} {vs : List Value} {r : Addr} {out fin : Int} {t3 t4 : Nat} {np : Nat → Int} {succ : Nat → List Int}
set_option tactic.hygienic true in
theorem done_ok (H : St B s (tsi S :: tsd w S (.ref r) (.int out t3) (.int fin t4) :: n2i S 6 :: nis S np :: sls S succ :: ilst r rdy :: l)) (G : Gd (hd.heap_39 w.params) B.g)
    (hv : IntsAre vs xs) (hx : ∀ x ∈ xs, 0 ≤ x ∧ x < 6) (hz : xs.length ≤ 50) (hr : rdy.length ≤ 100) (hs : ∀ k, (succ k).length ≤ 10) (hsx : ∀ k, ∀ x ∈ succ k, 0 ≤ x ∧ x < 6) (hA : A.depth < 900) (hh : A.handled = none)
    (hpre : ∀ i (hi : i < xs.length), ((xs.take i).foldl (doneOne succ) (np, rdy)).1 xs[i].toNat = -1)
    (hq : ∀ t4' s', St B s' (tsi S :: tsd w S (.ref r) (.int out t3) (.int (fin + xs.length) t4') :: n2i S 6 :: nis S ((xs.foldl (doneOne succ) (np, rdy)).1) :: sls S succ :: ilst r (xs.foldl (doneOne succ) (np, rdy)).2 :: l) → R (.ok (.ret .none)) s') :
    codeAny (model prog w) A (.call (.ref 113) ⟨.ref S.a :: vs, []⟩) R s := by
  refine sl_callV0 (front := [(Str.ofString "self", .ref S.a)]) (fs := [(Str.ofString "self", .ref S.a)]) (nr := Str.ofString "nodes") (vs := vs) H G (by k_is) (by k_is) (Nat.lt_trans hA (by decide)) (by cases vs <;> rfl) hv (by ((with_reducible refine Nat.le_trans (by with_reducible assumption) ?_); exact Nat.le_of_ble_eq_true rfl)) (fun v => locs rfl) rfl (fun t L s1 H1 => ?_) (by rfl) (by rfl) (by rfl) (by decide)
  refine post_named fun QF hQF => ?_
  (with_reducible refine wpAny_execs_cons ?_); (with_reducible refine wpAny_If ?_); (with_reducible refine wpAny_isTrue_Compare1 ?_); (with_reducible refine Attribute_any_ ?_); (with_reducible show wpAny _ _ (eval (Expr.Name _ _) (envOf _ _ _ _ _)) _ _ _); refine nm_l (by with_reducible assumption) (by with_reducible exact mem_0) (by rfl) ?_ (by rfl) (by rfl) (by decide); (with_reducible show wpAny _ _ (getAttr (Value.ref _) (Str.ofString "_ready_nodes") _) _ _ _); refine ga_ready (by with_reducible assumption) (by with_reducible assumption) (by with_reducible exact mem_2) (by with_reducible exact mem_3) rfl ?_; intro _ _; (with_reducible refine wpAny_Constant_none ?_); (with_reducible refine is_none ?_); (with_reducible refine wpAny_truthy_bool ?_)
  refine b_ff ?_ (by rfl)
  (with_reducible refine wpAny_execs_nil ?_); dsimp only; (with_reducible refine wpAny_execs_cons ?_); (with_reducible show wpAny _ _ (exec (Stmt.Assign [Expr.Name _ _] _ _) _) _ _ _); refine wpAny_Assign_Name ?_; dsimp only; (with_reducible refine Attribute_any_ ?_); (with_reducible show wpAny _ _ (eval (Expr.Name _ _) (envOf _ _ _ _ _)) _ _ _); refine nm_l (by with_reducible assumption) (by with_reducible exact mem_0) (by rfl) ?_ (by rfl) (by rfl) (by decide); (with_reducible show wpAny _ _ (getAttr (Value.ref _) (Str.ofString "_node2info") _) _ _ _); refine ga_n2i (by with_reducible assumption) (by with_reducible assumption) (by with_reducible exact mem_2) (by with_reducible exact mem_3) rfl ?_; intro _ _; (with_reducible show wpAny _ _ (storeName _ _ _) _ _ _); refine st_l (by with_reducible assumption) (by with_reducible exact rep_0) ?_ (by rfl) (by rfl); intro _ _; (with_reducible refine wpAny_execs_cons ?_); (with_reducible show wpAny _ _ (exec (Stmt.For _ _ _ _ _) _) _ _ _); refine wpAny_For ?_; (with_reducible show wpAny _ _ (eval (Expr.Name _ _) (envOf _ _ _ _ _)) _ _ _); refine nm_l (by with_reducible assumption) (by with_reducible exact mem_0) (by rfl) ?_ (by rfl) (by rfl) (by decide)
  refine iter_itup (by assumption) (by with_reducible exact mem_1) ?_
  intro it s3 H3
  obtain ⟨I0, hI0⟩ : ∃ I0 : Nat → List Reg → Prop, I0 = (fun i l' => ∃ t4' st, st = (xs.take i).foldl (doneOne succ) (np, rdy) ∧ l' = frame L [(Str.ofString "n2i", .ref S.n), (Str.ofString "nodes", .ref t), (Str.ofString "self", .ref S.a)] :: itup t xs :: tsi S :: tsd w S (.ref r) (.int out t3) (.int (fin + i) t4') :: n2i S 6
    :: nis S st.1 :: sls S succ :: ilst r st.2 :: l) := ⟨_, rfl⟩
  refine for_itup (xs := xs) (I := I0) hh H3 (by rw [hI0]; exact ⟨t4, _, rfl, by simp⟩) (fun i l' e => by rw [hI0] at e; obtain ⟨_, _, _, rfl⟩ := e; exact .tail _ (.head _)) ?_ ?_
  · rintro i tk l₁ s₁ hi hI H4
    rw [hI0] at hI
    obtain ⟨t4', st, hst, rfl⟩ := hI
    obtain ⟨h0, h6⟩ := hx xs[i] (List.getElem_mem hi)
    have hp : st.1 xs[i].toNat = -1 := by rw [hst]; exact hpre i hi
    have hb2 : st.2.length ≤ 100 + 10 * i := by
      have := dones_len hs (xs.take i) (np, rdy)
      rw [← hst, List.length_take] at this
      simp only at this
      (first | lia | omega)
    have hnext := foldl_take_succ (doneOne succ) (np, rdy) xs i hi
    rw [← hst] at hnext
    clear hst hpre hq
    have hb3 := hs xs[i].toNat
    replace hsx := hsx xs[i].toNat
    generalize hxi : xs[i] = x at *
    clear hxi
    (with_reducible refine wpAny_assign_Name ?_); dsimp only; (with_reducible show wpAny _ _ (storeName _ _ _) _ _ _); refine st_l (by with_reducible assumption) (by with_reducible exact rep_1) ?_ (by rfl) (by rfl); intro _ _
    refine posts_named fun Q0 E0 hQ0 hE0 => ?_
    (with_reducible refine wpAny_execs_cons ?_); (with_reducible refine wpAny_If ?_); (with_reducible refine wpAny_isTrue_Compare1 ?_); (with_reducible refine wpAny_NamedExpr ?_); (with_reducible show wpAny _ _ (eval (Expr.Call (Expr.Attribute _ _ _) _ _ _) _) _ _ _); refine MethodCall_ ?_; (with_reducible show wpAny _ _ (eval (Expr.Name _ _) (envOf _ _ _ _ _)) _ _ _); refine nm_l (by with_reducible assumption) (by with_reducible exact mem_1) (by rfl) ?_ (by rfl) (by rfl) (by decide); (with_reducible show wpAny _ _ (getMethod (Value.ref (Lay.n _)) (Str.ofString "get") _) _ _ _); refine gm_n2i (by with_reducible assumption) (by with_reducible exact mem_5) F.slot_dict_get (by kernel_rfl) ?_; dsimp only; (with_reducible show wpAny _ _ (callWith _ (Value.builtin _) _ (backTo _ (starEach (_ :: _) _)) _) _ _ _); refine cw_mach ?_ (by rfl) (by rfl) (by rfl) (by rfl); (with_reducible show wpAny _ _ (spliced (backTo _ (starEach (_ :: _) _))) _ _ _); refine wpAny_items_cons ?_; (with_reducible show wpAny _ _ (eval (Expr.Name _ _) (envOf _ _ _ _ _)) _ _ _); refine nm_l (by with_reducible assumption) (by with_reducible exact mem_1) (by rfl) ?_ (by rfl) (by rfl) (by decide); (with_reducible show wpAny _ _ (spliced (backTo _ (starEach [] _))) _ _ _); refine wpAny_items_nil ?_; (with_reducible show wpAny _ _ (call (Value.builtin "dict.get") _) _ _ _); refine call_get_n2i (by with_reducible assumption) (by with_reducible exact mem_5) (by with_reducible assumption) (by (first | lia | omega)) ?_; intro _ _; (with_reducible refine wpAny_assign_Name ?_); (with_reducible show wpAny _ _ (storeName _ _ _) _ _ _); refine st_l (by with_reducible assumption) (by with_reducible exact rep_1) ?_ (by rfl) (by rfl); intro _ _; (with_reducible refine wpAny_Constant_none ?_); (with_reducible refine is_none ?_); (with_reducible refine wpAny_truthy_bool ?_); ((with_reducible show (ite _ _ _ : Prop)); (refine b_ff ?_ (by ((with_reducible show (Value.ref _ == Value.none) = false); rfl)))); (with_reducible refine wpAny_execs_nil ?_); dsimp only; (with_reducible refine wpAny_execs_cons ?_); (with_reducible show wpAny _ _ (exec (Stmt.Assign [Expr.Name _ _] _ _) _) _ _ _); refine wpAny_Assign_Name ?_; dsimp only; (with_reducible refine Attribute_any_ ?_); (with_reducible show wpAny _ _ (eval (Expr.Name _ _) (envOf _ _ _ _ _)) _ _ _); refine nm_l (by with_reducible assumption) (by with_reducible exact mem_1) (by rfl) ?_ (by rfl) (by rfl) (by decide); (with_reducible show wpAny _ _ (getAttr (Value.ref _) (Str.ofString "npredecessors") _) _ _ _); refine ga_np (by with_reducible assumption) (by with_reducible assumption) (by with_reducible exact mem_6) (by (first | lia | omega)) ?_; intro _ _ _; (with_reducible show wpAny _ _ (storeName _ _ _) _ _ _); refine st_l (by with_reducible assumption) (by with_reducible exact rep_1) ?_ (by rfl) (by rfl); intro _ _; (with_reducible refine wpAny_execs_cons ?_); (with_reducible refine wpAny_If ?_); (with_reducible refine wpAny_isTrue_Compare1 ?_); (with_reducible show wpAny _ _ (eval (Expr.Name _ _) (envOf _ _ _ _ _)) _ _ _); refine nm_l (by with_reducible assumption) (by with_reducible exact mem_1) (by rfl) ?_ (by rfl) (by rfl) (by decide); (with_reducible show wpAny _ _ (eval (Expr.Name _ _) (envOf _ _ _ _ _)) _ _ _); refine nm_g (by with_reducible assumption) (by with_reducible assumption) (by k_is) ?_ (by rfl) (by rfl) (by decide); (with_reducible refine PyProof.Rows.ne_int ?_); (with_reducible refine wpAny_truthy_bool ?_)
    refine b_ff ?_ (by rw [hp]; rfl)
    (with_reducible refine wpAny_execs_nil ?_); dsimp only; (with_reducible refine wpAny_execs_cons ?_); (with_reducible show wpAny _ _ (exec (Stmt.Assign [Expr.Attribute _ _ _] _ _) _) _ _ _); refine plainObj_wpAny_Assign_Attribute ?_; dsimp only; (with_reducible show wpAny _ _ (eval (Expr.Name _ _) (envOf _ _ _ _ _)) _ _ _); refine nm_g (by with_reducible assumption) (by with_reducible assumption) (by k_is) ?_ (by rfl) (by rfl) (by decide); (with_reducible show wpAny _ _ (eval (Expr.Name _ _) (envOf _ _ _ _ _)) _ _ _); refine nm_l (by with_reducible assumption) (by with_reducible exact mem_1) (by rfl) ?_ (by rfl) (by rfl) (by decide)
    refine sa_np (np' := set1 st.1 x.toNat (-2)) (by assumption) (by assumption) (by with_reducible exact rep_6) (by (first | lia | omega)) (set1_self _ _ _) (fun j hj => set1_ne hj) ?_
    intro s5 H5
    (with_reducible refine wpAny_execs_cons ?_); (with_reducible show wpAny _ _ (exec (Stmt.For _ _ _ _ _) _) _ _ _); refine wpAny_For ?_; (with_reducible refine Attribute_any_ ?_); (with_reducible show wpAny _ _ (eval (Expr.Name _ _) (envOf _ _ _ _ _)) _ _ _); refine nm_l (by with_reducible assumption) (by with_reducible exact mem_1) (by rfl) ?_ (by rfl) (by rfl) (by decide); (with_reducible show wpAny _ _ (getAttr (Value.ref _) (Str.ofString "successors") _) _ _ _); refine ga_succ (by with_reducible assumption) (by with_reducible assumption) (by with_reducible exact mem_6) (by (first | lia | omega)) ?_; intro _ _; (with_reducible show wpAny _ _ (pyIter (Value.ref (Lay.s _ _))) _ _ _); refine iter_sl (by with_reducible assumption) (by with_reducible exact mem_7) (by (first | lia | omega)) ?_; intro _ _ _
    rename_i it2 s6 H6
    have H6 := ((H6.forget (by with_reducible exact rep_2)).forget (by with_reducible exact rep_2)).forget (by with_reducible exact rep_2)
    generalize hss : succ x.toNat = ys at *
    obtain ⟨I1, hI1⟩ : ∃ I1 : Nat → List Reg → Prop, I1 = (fun j l' => ∃ s2, s2 = (ys.take j).foldl low (set1 st.1 x.toNat (-2), st.2) ∧ l' = titer it t (i + 1) :: frame L [(Str.ofString "n2i", .ref S.n), (Str.ofString "nodes", .ref t), (Str.ofString "self", .ref S.a)] :: itup t xs :: tsi S :: tsd w S (.ref r) (.int out t3) (.int (fin + i) t4') :: n2i S 6
        :: nis S s2.1 :: sls S succ :: ilst r s2.2 :: l) := ⟨_, rfl⟩
    refine for_ilstG (xs := ys) (I := I1)
        hh H6 (by rw [hI1]; exact ⟨_, rfl, rfl⟩) (fun j l₁ s₁ e H => by rw [hI1] at e; obtain ⟨_, _, rfl⟩ := e; rw [← hss]; exact sl_is H (by with_reducible exact mem_8) (by (first | lia | omega))) ?_ ?_
    · rintro j tk2 l₁ s₁ hj hI H7
      rw [hI1] at hI
      obtain ⟨s2, hs2, rfl⟩ := hI
      obtain ⟨k0, k6⟩ := hsx _ (List.getElem_mem hj)
      have hb4 : s2.2.length ≤ 900 := by
        have := lows_len (ys.take j) (set1 st.1 x.toNat (-2), st.2)
        rw [← hs2, List.length_take] at this
        simp only at this
        (first | lia | omega)
      have hnext2 := foldl_take_succ low (set1 st.1 x.toNat (-2), st.2) ys j hj
      rw [← hs2] at hnext2
      clear hs2 hsx hnext hx hs
      generalize ys[j] = y at *
      (with_reducible refine wpAny_assign_Name ?_); dsimp only; (with_reducible show wpAny _ _ (storeName _ _ _) _ _ _); refine st_l (by with_reducible assumption) (by with_reducible exact rep_2) ?_ (by rfl) (by rfl); intro _ _
      refine posts_named fun Q1 E1 hQ1 hE1 => ?_
      (with_reducible refine wpAny_execs_cons ?_); (with_reducible show wpAny _ _ (exec (Stmt.Assign [Expr.Name _ _] _ _) _) _ _ _); refine wpAny_Assign_Name ?_; dsimp only; (with_reducible refine Subscript_ ?_); (with_reducible show wpAny _ _ (eval (Expr.Name _ _) (envOf _ _ _ _ _)) _ _ _); refine nm_l (by with_reducible assumption) (by with_reducible exact mem_2) (by rfl) ?_ (by rfl) (by rfl) (by decide); (with_reducible show wpAny _ _ (eval (Expr.Name _ _) (envOf _ _ _ _ _)) _ _ _); refine nm_l (by with_reducible assumption) (by with_reducible exact mem_2) (by rfl) ?_ (by rfl) (by rfl) (by decide); (with_reducible show wpAny _ _ (subscriptTail _ _ (Value.ref (Lay.n _)) (Value.int _ _)) _ _ _); refine sub_n2i (by with_reducible assumption) (by with_reducible exact mem_6) (by with_reducible assumption) (by (first | lia | omega)) ?_ (by with_unfolding_all rfl); intro _ _; (with_reducible show wpAny _ _ (storeName _ _ _) _ _ _); refine st_l (by with_reducible assumption) (by with_reducible exact rep_2) ?_ (by rfl) (by rfl); intro _ _; (with_reducible refine wpAny_execs_cons ?_); (with_reducible refine wpAny_AugAssign_AttributeAny ?_); dsimp only; (with_reducible show wpAny _ _ (eval (Expr.Name _ _) (envOf _ _ _ _ _)) _ _ _); refine nm_l (by with_reducible assumption) (by with_reducible exact mem_2) (by rfl) ?_ (by rfl) (by rfl) (by decide); (with_reducible show wpAny _ _ (getAttr (Value.ref _) (Str.ofString "npredecessors") _) _ _ _); refine ga_np (by with_reducible assumption) (by with_reducible assumption) (by with_reducible exact mem_7) (by (first | lia | omega)) ?_; intro _ _ _; (with_reducible show wpAny _ _ (eval (Expr.Constant (Const.int _) _ _) _) _ _ _); refine const_int (by with_reducible assumption) ?_; intro _ _ _; (with_reducible show wpAny _ _ (inplaceOp .Sub (Value.int _ _) (Value.int _ _)) _ _ _); refine ii_sub (by with_reducible assumption) ?_; intro _ _ _
      refine sa_np (np' := (low s2 y).1) (by assumption) (by assumption) (by with_reducible exact rep_7) (by (first | lia | omega)) (set1_self _ _ _) (fun j hj => set1_ne hj) ?_
      intro s8 H8
      (with_reducible refine wpAny_execs_cons ?_); (with_reducible refine wpAny_If ?_); (with_reducible refine wpAny_isTrue_Compare1 ?_); (with_reducible refine Attribute_any_ ?_); (with_reducible show wpAny _ _ (eval (Expr.Name _ _) (envOf _ _ _ _ _)) _ _ _); refine nm_l (by with_reducible assumption) (by with_reducible exact mem_2) (by rfl) ?_ (by rfl) (by rfl) (by decide); (with_reducible show wpAny _ _ (getAttr (Value.ref _) (Str.ofString "npredecessors") _) _ _ _); refine ga_np (by with_reducible assumption) (by with_reducible assumption) (by with_reducible exact mem_7) (by (first | lia | omega)) ?_; intro _ _ _; (with_reducible show wpAny _ _ (eval (Expr.Constant (Const.int _) _ _) _) _ _ _); refine const_int (by with_reducible assumption) ?_; intro _ _ _; (with_reducible refine PyProof.Rows.eq_int ?_); (with_reducible refine wpAny_truthy_bool ?_)
      refine b_split (fun hz => ?_) (fun hz => ?_)
      · have e : low s2 y = ((low s2 y).1, s2.2 ++ [y]) := by unfold low; rw [if_pos (by simpa [low, set1] using hz)]
        (with_reducible refine wpAny_execs_cons ?_); (with_reducible show wpAny _ _ (exec (Stmt.Expr _ _) _) _ _ _); refine wpAny_Expr_any ?_; dsimp only; (with_reducible show wpAny _ _ (eval (Expr.Call (Expr.Attribute _ _ _) _ _ _) _) _ _ _); refine MethodCall_ ?_; (with_reducible refine Attribute_any_ ?_); (with_reducible show wpAny _ _ (eval (Expr.Name _ _) (envOf _ _ _ _ _)) _ _ _); refine nm_l (by with_reducible assumption) (by with_reducible exact mem_2) (by rfl) ?_ (by rfl) (by rfl) (by decide); (with_reducible show wpAny _ _ (getAttr (Value.ref _) (Str.ofString "_ready_nodes") _) _ _ _); refine ga_ready (by with_reducible assumption) (by with_reducible assumption) (by with_reducible exact mem_4) (by with_reducible exact mem_5) rfl ?_; intro _ _; (with_reducible show wpAny _ _ (getMethod (Value.ref _) (Str.ofString "append") _) _ _ _); refine gm_list (by with_reducible assumption) (by with_reducible exact mem_9) F.slot_list_append (by kernel_rfl) ?_; dsimp only; (with_reducible show wpAny _ _ (callWith _ (Value.builtin _) _ (backTo _ (starEach (_ :: _) _)) _) _ _ _); refine cw_mach ?_ (by rfl) (by rfl) (by rfl) (by rfl); (with_reducible show wpAny _ _ (spliced (backTo _ (starEach (_ :: _) _))) _ _ _); refine wpAny_items_cons ?_; (with_reducible show wpAny _ _ (eval (Expr.Name _ _) (envOf _ _ _ _ _)) _ _ _); refine nm_l (by with_reducible assumption) (by with_reducible exact mem_2) (by rfl) ?_ (by rfl) (by rfl) (by decide); (with_reducible show wpAny _ _ (spliced (backTo _ (starEach [] _))) _ _ _); refine wpAny_items_nil ?_; (with_reducible show wpAny _ _ (call (Value.builtin "list.append") _) _ _ _); refine append_ilst (by with_reducible assumption) (by with_reducible exact rep_9) (by (first | lia | omega)) ?_; intro _ _; (with_reducible refine wpAny_execs_nil ?_); dsimp only; (with_reducible refine wpAny_execs_nil ?_)
        subst hQ1
        exact ⟨_, by rw [hI1]; exact ⟨_, hnext2.symm, by rw [e]⟩, by exact St.reframe (by with_reducible assumption) (by with_reducible exact rep_2) (by exact Framed.of rfl)⟩
      · have e : low s2 y = ((low s2 y).1, s2.2) := by unfold low; rw [if_neg (by simpa [low, set1] using hz)]
        (with_reducible refine wpAny_execs_nil ?_); dsimp only; (with_reducible refine wpAny_execs_nil ?_)
        subst hQ1
        exact ⟨_, by rw [hI1]; exact ⟨_, hnext2.symm, by rw [e]⟩, by exact St.reframe (by with_reducible assumption) (by with_reducible exact rep_2) (by exact Framed.of rfl)⟩
    · rintro l₁ s₁ hI H7
      rw [hI1] at hI
      obtain ⟨s2, hs2, rfl⟩ := hI
      (with_reducible refine wpAny_execs_cons ?_); (with_reducible refine wpAny_AugAssign_AttributeAny ?_); dsimp only; (with_reducible show wpAny _ _ (eval (Expr.Name _ _) (envOf _ _ _ _ _)) _ _ _); refine nm_l (by with_reducible assumption) (by with_reducible exact mem_1) (by rfl) ?_ (by rfl) (by rfl) (by decide); (with_reducible show wpAny _ _ (getAttr (Value.ref _) (Str.ofString "_nfinished") _) _ _ _); refine ga_fin (by with_reducible assumption) (by with_reducible assumption) (by with_reducible exact mem_3) (by with_reducible exact mem_4) rfl ?_; intro _ _; (with_reducible show wpAny _ _ (eval (Expr.Constant (Const.int _) _ _) _) _ _ _); refine const_int (by with_reducible assumption) ?_; intro _ _ _; (with_reducible show wpAny _ _ (inplaceOp .Add (Value.int _ _) (Value.int _ _)) _ _ _); refine ii_add (by with_reducible assumption) ?_; intro _ _ _; (with_reducible show wpAny _ _ (setAttr (Value.ref _) (Str.ofString "_nfinished") _) _ _ _); refine sa_fin (by with_reducible assumption) (by with_reducible assumption) (by with_reducible exact mem_3) (by with_reducible exact rep_4) ?_; intro _ _; (with_reducible refine wpAny_execs_nil ?_)
      rename_i H9
      rw [List.take_length] at hs2
      have e : s2 = (xs.take (i + 1)).foldl (doneOne succ) (np, rdy) := by rw [hnext, hs2]; unfold doneOne; rw [hss]
      have e2 : fin + ((i + 1 : Nat) : Int) = fin + i + 1 := by (first | lia | omega)
      subst hQ0
      exact ⟨_, by rw [hI0]; exact ⟨_, s2, e, by rw [e2]⟩, H9⟩
  · rintro l₁ s₁ hI H4
    rw [hI0] at hI
    obtain ⟨t4', st, hst, rfl⟩ := hI
    (with_reducible refine wpAny_execs_nil ?_)
    rw [List.take_length] at hst
    subst hst
    subst hQF
    exact hq _ _ (H4.sub (by exact sub_of [false, false] rfl))
end
end
section
open PySem PySem.W PyProof.Rows PySem.Calls PySem.Spec
noncomputable def dctR (d : Addr) (es : List DictEntry) : Reg := cell d (fun o => ∃ n, o = dictOf es n)
noncomputable def recR (a e : Addr) (sl : Array (Option Value)) : Reg := cell a (fun o => o = { cls := .ref 33, dict := some e, data := .plain, slots := sl })
section
variable {prog : Program} {w : World} {A : Around} {s : Shared} {B : Bs} {l : List Reg} {E : Value → Shared → Prop}
theorem St.two {r1 r2 r : Reg} (H : St B s (r1 :: r2 :: l)) (p : r1.P s.heap → r2.P s.heap → r.P s.heap) (f : ∀ a ∈ r.fp, a ∈ r1.fp ∨ a ∈ r2.fp) : St B s (r :: l) := by
  obtain ⟨s1, s2⟩ := List.pairwise_cons.mp H.sep
  obtain ⟨s3, s4⟩ := List.pairwise_cons.mp s2
  refine ⟨H.ge, H.dr, H.os, H.keep, List.forall_mem_cons.mpr ⟨p H.head H.tail.head, H.tail.tail.regs⟩, List.forall_mem_cons.mpr ⟨fun a ha => ?_, H.tail.tail.off⟩, List.pairwise_cons.mpr ⟨fun x hx a ha => ?_, s4⟩⟩
  · exact (f a ha).elim (H.off _ (.head _) a) (H.off _ (.tail _ (.head _)) a)
  · exact (f a ha).elim (s1 x (.tail _ hx) a) (s3 x hx a)
theorem mk_own {C fI : Addr} {rest : List Value} {R : Result → Shared → Prop} (H : St B s l) (G : Gd (hd.heap_39 w.params) B.g) (hm : makesIn (hd.heap_39 w.params) C = true)
    (hi : findIn (hd.heap_39 w.params) (.ref C) "__init__" = some (some (.ref fI))) (hf : typeIn (hd.heap_39 w.params) (.ref fI) = some (.type "function"))
    (h : ∀ x dx s', St B s' (cell x (fun o => o = instObj C dx) :: cell dx (fun o => o = emptyDict) :: l) →
      codeAny (model prog w) (A.under (.builtin "type.__call__" ⟨.ref C :: rest, []⟩)) (.call (.ref fI) ⟨.ref x :: rest, []⟩) (InitBack x R) s') :
    codeAny (model prog w) A (.call (.ref C) ⟨rest, []⟩) R s := by
  have X := H.kin G
  obtain ⟨hh, g, d, t, os⟩ := s
  refine make_core (makes_of X hm) (looks_findIn X hi) (fun self => bind_fn X self hf) (.inl rfl) (h _ hh.objs.size _ ?_)
  have H1 := H.push (o := emptyDict) (p := fun o => o = emptyDict) rfl rfl t
  have H2 := H1.push (o := instObj C hh.objs.size) (p := fun o => o = instObj C hh.objs.size) rfl rfl t
  have e : (hh.push emptyDict).objs.size = hh.objs.size + 1 := Heap.size_push ..
  dsimp only at H2
  rw [e] at H2
  exact H2
theorem sa_rec {i : Nat} {a e : Addr} {sl sl' : Array (Option Value)} {name : Str} {v : Value} {p : Addr} {l' : List Reg} {Q : Unit → Shared → Prop} (H : St B s l) (G : Gd (hd.heap_39 w.params) B.g) (he : cell e (fun o => o = emptyDict) ∈ l) (R : Rep (recR a e sl) (recR a e sl') l l')
    (hs : findIn (hd.heap_39 w.params) (.ref 33) "__setattr__" = some (some (.builtin "object.__setattr__"))) (hp : plainOver (hd.heap_39 w.params) 33 = true) (ht : takerIn (hd.heap_39 w.params) 33 name = some (some (.ref p))) (hT : typeIn (hd.heap_39 w.params) (.ref p) = some (.type "member_descriptor"))
    (hi : slotIn (hd.heap_39 w.params) p 33 = some i) (hz : i < 1000) (e' : (sl ++ Array.replicate (i + 1 - sl.size) none).setIfInBounds i (some v) = sl') (h : ∀ s', St B s' l' → Q () s') :
    wpAny (model prog w) A (setAttr (.ref a) name v) Q E s := by
  obtain ⟨o, ho, rfl⟩ := H.get R.mem
  obtain ⟨oe, hoe, rfl⟩ := H.get he
  have I : InstAt s.heap a { cls := .ref 33, dict := some e, data := .plain, slots := sl } 33 (some emptyDict) := ⟨ho, rfl, rfl, hoe⟩
  refine sa_slot (H.kin G) I hs hp ht hT hi hz (h _ ?_)
  exact H.upd1 (f := putSlot i v) (p := fun o => o = { cls := .ref 33, dict := some e, data := .plain, slots := sl }) (p' := fun o => o = { cls := .ref 33, dict := some e, data := .plain, slots := sl' }) R (fun o ho => by subst ho; exact ⟨by unfold putSlot; rw [e'], rfl⟩) _
theorem sa_grow {a d : Addr} {name : Str} {es : List DictEntry} {v : Value} {Q : Unit → Shared → Prop} (H : St B s (dctR d es :: l)) (G : Gd (hd.heap_39 w.params) B.g) (h1 : tsI a d ∈ l)
    (hs : findIn (hd.heap_39 w.params) (.ref 130) "__setattr__" = some (some (.builtin "object.__setattr__"))) (hp : plainOver (hd.heap_39 w.params) 130 = true) (ht : takerIn (hd.heap_39 w.params) 130 name = some none) (hh : hasDictIn (hd.heap_39 w.params) 130 = true)
    (hl : ∀ n, (lookIn name (dictOf es n)).isSome = true) (hz : es.length ≤ 10)
    (e' : ∀ hsh k, putL name hsh k v es = es ++ [⟨hsh, k, v⟩]) (h : ∀ t s', St B s' (dctR d (es ++ [⟨PyData.keyHash w.params name, .str name t, v⟩]) :: l) → Q () s') :
    wpAny (model prog w) A (setAttr (.ref a) name v) Q E s := by
  obtain ⟨o, ho, rfl⟩ := H.get (.tail _ h1)
  obtain ⟨od, hod, n, rfl⟩ := H.head
  have I : InstAt s.heap a (instObj 130 d) 130 (some (dictOf es n)) := ⟨ho, rfl, rfl, hod⟩
  have hd' : Obj.putName name (PyData.keyHash w.params name) (.str name (s.toks + 1)) v (dictOf es n) = dictOf (es ++ [⟨PyData.keyHash w.params name, .str name (s.toks + 1), v⟩]) (putN name es n) := by rw [putName_dict, e']
  refine sa_dict (H.kin G) I rfl hs hp ht hh (hl n) (es := (es ++ ([⟨PyData.keyHash w.params name, .str name (s.toks + 1), v⟩] : List DictEntry)).toArray) (n := putN name es n) (by rw [hd']) (by rw [List.size_toArray, List.length_append, List.length_singleton]; (first | lia | omega)) (h (s.toks + 1) _ ?_)
  refine H.rep .here rfl rfl rfl (fun b o e z => (Heap.get?_update_other _ _ (fun q => z (by show b ∈ [d]; rw [q]; exact List.mem_singleton.mpr rfl))).trans e) ⟨_, Heap.get?_update_self _ hod (by rw [hd']; rfl), ?_⟩ fun _ h => .inl h
  rw [hd']; exact ⟨_, rfl⟩
end
section
variable {w : World} {A : Around} {s : Shared} {B : Bs} {l : List Reg} {Q : Value → Shared → Prop} {E : Value → Shared → Prop}
set_option tactic.hygienic true in
theorem own_ni {k : Nat} {t : Nat} (hA : A.depth < 900) (hh : A.handled = none) (H : St B s l) (G : Gd (hd.heap_39 w.params) B.g)
    (h : ∀ a e q s', (∀ S : Lay, S.i k = a → S.e k = e → S.s k = q → St B s' (niC S k 0 :: ilst q [] :: l)) → Q (.ref a) s') :
    wpAny (model PySem.Challenge.pw_xc0002_01 w) A (call (.ref 33) [.int k t]) Q E s := by
  refine wpAny_call (mk_own (fI := 29) H G (by k_is) (by k_is) (by k_is) fun a e s1 H1 => ?_)
  have H2 : St B s1 (recR a e #[] :: cell e (fun o => o = emptyDict) :: l) := H1
  refine sl_call0 (binds := [(Str.ofString "self", .ref a), (Str.ofString "node", .int k t)]) (fs := [(Str.ofString "node", .int k t), (Str.ofString "self", .ref a)]) H2 G (by k_is) (by k_is) (Nat.lt_of_lt_of_le (Nat.add_lt_add_right hA _) (Nat.le_of_ble_eq_true rfl)) (BindsTo.of_eq rfl) (locs rfl) rfl (fun L s2 H3 => ?_) (by rfl) (by rfl) (by rfl) (by decide)
  (with_reducible refine wpAny_execs_cons ?_); (with_reducible show wpAny _ _ (exec (Stmt.Assign [Expr.Attribute _ _ _] _ _) _) _ _ _); refine plainObj_wpAny_Assign_Attribute ?_; dsimp only; (with_reducible show wpAny _ _ (eval (Expr.Name _ _) (envOf _ _ _ _ _)) _ _ _); refine nm_l (by with_reducible assumption) (by with_reducible exact mem_0) (by rfl) ?_ (by rfl) (by rfl) (by decide); (with_reducible show wpAny _ _ (eval (Expr.Name _ _) (envOf _ _ _ _ _)) _ _ _); refine nm_l (by with_reducible assumption) (by with_reducible exact mem_0) (by rfl) ?_ (by rfl) (by rfl) (by decide)
  refine sa_rec (i := 0) (sl' := #[some (.int k t)]) (by with_reducible assumption) G (by with_reducible exact mem_2) (by with_reducible exact rep_1) (by k_is) (by k_is) (by k_is) (by k_is) (by k_is) (by decide) rfl ?_
  intro s3 H4
  (with_reducible refine wpAny_execs_cons ?_); (with_reducible show wpAny _ _ (exec (Stmt.Assign [Expr.Attribute _ _ _] _ _) _) _ _ _); refine plainObj_wpAny_Assign_Attribute ?_; dsimp only; (with_reducible show wpAny _ _ (eval (Expr.Constant (Const.int _) _ _) _) _ _ _); refine const_int (by with_reducible assumption) ?_; intro _ _ _; (with_reducible show wpAny _ _ (eval (Expr.Name _ _) (envOf _ _ _ _ _)) _ _ _); refine nm_l (by with_reducible assumption) (by with_reducible exact mem_0) (by rfl) ?_ (by rfl) (by rfl) (by decide)
  refine sa_rec (i := 1) (sl' := #[some (.int k t), some (.int 0 _)]) (by with_reducible assumption) G (by with_reducible exact mem_2) (by with_reducible exact rep_1) (by k_is) (by k_is) (by k_is) (by k_is) (by k_is) (by decide) rfl ?_
  intro s4 H5
  (with_reducible refine wpAny_execs_cons ?_); (with_reducible show wpAny _ _ (exec (Stmt.Assign [Expr.Attribute _ _ _] _ _) _) _ _ _); refine plainObj_wpAny_Assign_Attribute ?_; dsimp only; (with_reducible show wpAny _ _ (eval (Expr.List _ _) _) _ _ _); refine List_ ?_; (with_reducible show wpAny _ _ (spliced (backTo _ (starEach [] _))) _ _ _); refine wpAny_items_nil ?_; (with_reducible show wpAny _ _ (newList []) _ _ _); refine newlist_ints (by with_reducible assumption) .nil (by (simp_all; done)) ?_; intro _ _ _; (with_reducible show wpAny _ _ (eval (Expr.Name _ _) (envOf _ _ _ _ _)) _ _ _); refine nm_l (by with_reducible assumption) (by with_reducible exact mem_1) (by rfl) ?_ (by rfl) (by rfl) (by decide)
  rename_i q s5 H6
  refine sa_rec (i := 2) (sl' := #[some (.int k t), some (.int 0 _), some (.ref q)]) (by with_reducible assumption) G (by with_reducible exact mem_3) (by with_reducible exact rep_2) (by k_is) (by k_is) (by k_is) (by k_is) (by k_is) (by decide) rfl ?_
  intro s6 H7
  (with_reducible refine wpAny_execs_nil ?_); dsimp only
  refine ⟨rfl, h a e q _ fun S ea ee eq => ?_⟩
  subst ea ee eq
  have H8 := St.sub (St.perm H7 (l' := frame L _ :: recR (S.i k) (S.e k) _ :: cell (S.e k) (fun o => o = emptyDict) :: ilst (S.s k) [] :: l) (by exact permP_perm [1, 1, 1] _)) (l' := recR (S.i k) (S.e k) _ :: cell (S.e k) (fun o => o = emptyDict) :: ilst (S.s k) [] :: l) (by exact sub_of [false] rfl)
  refine H8.two (fun ⟨o, ho, e1⟩ ⟨o', ho', e2⟩ => ⟨⟨t, _, ho.trans (congrArg some e1)⟩, ho'.trans (congrArg some e2)⟩) (fun b hb => ?_)
  rcases List.mem_cons.mp hb with q | q
  · exact .inl (List.mem_singleton.mpr q)
  · exact .inr q
theorem own_ts (hA : A.depth < 900) (hh : A.handled = none) (H : St B s l) (G : Gd (hd.heap_39 w.params) B.g)
    (h : ∀ a d n t1 t2 s', St B s' (tsI a d :: tsD w.params d (.ref n) .none (.int 0 t1) (.int 0 t2) :: cell n (fun o => (n == sysModules) = false ∧ o = emptyDict) :: l) → Q (.ref a) s') :
    wpAny (model PySem.Challenge.pw_xc0002_01 w) A (call (.ref 130) []) Q E s := by
  refine wpAny_call (mk_own (fI := 66) H G (by k_is) (by k_is) (by k_is) fun a d s1 H1 => ?_)
  have H2 : St B s1 (dctR d [] :: tsI a d :: l) := (St.perm H1 (.swap ..)).repWeak .here (fun ⟨o, ho, e⟩ => ⟨o, ho, 0, e⟩) (fun _ h => h)
  refine sl_call0 (binds := [(Str.ofString "self", .ref a), (Str.ofString "graph", .none)]) (fs := [(Str.ofString "graph", .none), (Str.ofString "self", .ref a)]) H2 G (by k_is) (by k_is) (Nat.lt_of_lt_of_le (Nat.add_lt_add_right hA _) (Nat.le_of_ble_eq_true rfl)) ?_ (locs rfl) rfl (fun L s2 H3 => ?_) (by rfl) (by rfl) (by rfl) (by decide)
  · exact binds_K (H2.kin G) rfl (by k_is) rfl rfl rfl
  (with_reducible refine wpAny_execs_cons ?_); (with_reducible show wpAny _ _ (exec (Stmt.Assign [Expr.Attribute _ _ _] _ _) _) _ _ _); refine plainObj_wpAny_Assign_Attribute ?_; dsimp only
  refine wpAny_Dict_empty ?_
  have H4 := H3.new1 (o := emptyDict) (p := fun o => (s2.heap.objs.size == sysModules) = false ∧ o = emptyDict) rfl ⟨beq_false_of_ne (Nat.ne_of_gt (modules_low (G.lim.keeps H3.keep))), rfl⟩
  revert H4
  generalize s2.heap.objs.size = n
  generalize ({ s2 with heap := s2.heap.push emptyDict } : Shared) = s3
  intro H4
  (with_reducible show wpAny _ _ (eval (Expr.Name _ _) (envOf _ _ _ _ _)) _ _ _); refine nm_l (by with_reducible assumption) (by with_reducible exact mem_1) (by rfl) ?_ (by rfl) (by rfl) (by decide)
  refine sa_grow (d := d) (St.perm (by with_reducible assumption) (Out.perm (by exact .there (.there (.here))))) G (by with_reducible exact mem_2) (by k_is) (by k_is) (by k_is) (by k_is) (fun _ => rfl) (Nat.le_of_ble_eq_true rfl) (fun _ _ => rfl) ?_
  intro u0 s4 H5
  (with_reducible refine wpAny_execs_cons ?_); (with_reducible show wpAny _ _ (exec (Stmt.Assign [Expr.Attribute _ _ _] _ _) _) _ _ _); refine plainObj_wpAny_Assign_Attribute ?_; dsimp only; (with_reducible refine wpAny_Constant_none ?_); (with_reducible show wpAny _ _ (eval (Expr.Name _ _) (envOf _ _ _ _ _)) _ _ _); refine nm_l (by with_reducible assumption) (by with_reducible exact mem_2) (by rfl) ?_ (by rfl) (by rfl) (by decide)
  refine sa_grow (d := d) (St.perm (by with_reducible assumption) (Out.perm (by exact .here))) G (by with_reducible exact mem_2) (by k_is) (by k_is) (by k_is) (by k_is) (fun _ => rfl) (Nat.le_of_ble_eq_true rfl) (fun _ _ => rfl) ?_
  intro u1 s5 H6
  (with_reducible refine wpAny_execs_cons ?_); (with_reducible show wpAny _ _ (exec (Stmt.Assign [Expr.Attribute _ _ _] _ _) _) _ _ _); refine plainObj_wpAny_Assign_Attribute ?_; dsimp only; (with_reducible show wpAny _ _ (eval (Expr.Constant (Const.int _) _ _) _) _ _ _); refine const_int (by with_reducible assumption) ?_; intro _ _ _; (with_reducible show wpAny _ _ (eval (Expr.Name _ _) (envOf _ _ _ _ _)) _ _ _); refine nm_l (by with_reducible assumption) (by with_reducible exact mem_2) (by rfl) ?_ (by rfl) (by rfl) (by decide)
  refine sa_grow (d := d) (St.perm (by with_reducible assumption) (Out.perm (by exact .here))) G (by with_reducible exact mem_2) (by k_is) (by k_is) (by k_is) (by k_is) (fun _ => rfl) (Nat.le_of_ble_eq_true rfl) (fun _ _ => rfl) ?_
  intro u2 s6 H7
  (with_reducible refine wpAny_execs_cons ?_); (with_reducible show wpAny _ _ (exec (Stmt.Assign [Expr.Attribute _ _ _] _ _) _) _ _ _); refine plainObj_wpAny_Assign_Attribute ?_; dsimp only; (with_reducible show wpAny _ _ (eval (Expr.Constant (Const.int _) _ _) _) _ _ _); refine const_int (by with_reducible assumption) ?_; intro _ _ _; (with_reducible show wpAny _ _ (eval (Expr.Name _ _) (envOf _ _ _ _ _)) _ _ _); refine nm_l (by with_reducible assumption) (by with_reducible exact mem_2) (by rfl) ?_ (by rfl) (by rfl) (by decide)
  refine sa_grow (d := d) (St.perm (by with_reducible assumption) (Out.perm (by exact .here))) G (by with_reducible exact mem_2) (by k_is) (by k_is) (by k_is) (by k_is) (fun _ => rfl) (Nat.le_of_ble_eq_true rfl) (fun _ _ => rfl) ?_
  intro u3 s7 H8
  (with_reducible refine wpAny_execs_cons ?_); (with_reducible refine wpAny_If ?_); (with_reducible refine wpAny_isTrue_Compare1 ?_); (with_reducible show wpAny _ _ (eval (Expr.Name _ _) (envOf _ _ _ _ _)) _ _ _); refine nm_l (by with_reducible assumption) (by with_reducible exact mem_2) (by rfl) ?_ (by rfl) (by rfl) (by decide); (with_reducible refine wpAny_Constant_none ?_); (with_reducible refine isNot_none ?_); (with_reducible refine wpAny_truthy_bool ?_)
  refine b_ff ?_ rfl
  (with_reducible refine wpAny_execs_nil ?_); dsimp only; (with_reducible refine wpAny_execs_nil ?_); dsimp only
  have H10 := St.sub (St.perm (by with_reducible assumption) (l' := frame L _ :: dctR d _ :: tsI a d :: cell n (fun o => (n == sysModules) = false ∧ o = emptyDict) :: l) (by exact permP_perm [2, 0, 1] _)) (l' := dctR d _ :: tsI a d :: cell n (fun o => (n == sysModules) = false ∧ o = emptyDict) :: l) (by exact sub_of [false] rfl)
  obtain ⟨t1, t2, H11⟩ : ∃ t1 t2, St B _ (tsD w.params d (.ref n) .none (.int 0 t1) (.int 0 t2) :: tsI a d :: cell n (fun o => (n == sysModules) = false ∧ o = emptyDict) :: l) :=
    ⟨_, _, H10.repWeak .here (fun ⟨o, ho, m, e⟩ => ⟨o, ho, _, _, _, _, m, e⟩) (fun _ h => h)⟩
  exact ⟨rfl, h a d n t1 t2 _ (St.perm H11 (.swap ..))⟩
end
end
section
open PySem PySem.W PyProof.Rows PySem.Calls PySem.Spec
theorem kvs_out {S : Lay} {n : Nat} : valueAt (kvsN S n) (n : Int) = none := by
  unfold valueAt kvsN
  rw [Option.map_eq_none_iff, List.find?_eq_none]
  intro x hx
  obtain ⟨j, hj, rfl⟩ := List.mem_map.mp hx
  have := List.mem_range.mp hj
  simp; (first | lia | omega)
theorem kvs_stored {S : Lay} {n : Nat} {v : Value} : stored (kvsN S n) (n : Int) v = kvsN S n ++ [((n : Int), v)] := by
  unfold stored
  rw [if_neg]
  rw [List.any_eq_true]
  rintro ⟨x, hx, e⟩
  obtain ⟨j, hj, rfl⟩ := List.mem_map.mp hx
  have := List.mem_range.mp hj
  simp at e; (first | lia | omega)
section
variable {w : World} {A : Around} {s : Shared} {B : Bs} {l : List Reg} {S : Lay} {R : Result → Shared → Prop} {v2 v3 v4 : Value} {np : Nat → Int} {succ : Nat → List Int} {n : Nat} {k : Int} {t : Nat}
theorem node_old {prog : Program} (H : St B s (tsi S :: tsd w S v2 v3 v4 :: n2i S n :: l)) (G : Gd (hd.heap_39 w.params) B.g)
    (hA : A.depth < 890) (hh : A.handled = none) (h0 : 0 ≤ k) (h1 : k < n)
    (hq : ∀ s', St B s' (tsi S :: tsd w S v2 v3 v4 :: n2i S n :: l) → R (.ok (.ret (.ref (S.i k.toNat)))) s') :
    codeAny (model prog w) A (.call (.ref 73) ⟨[.ref S.a, .int k t], []⟩) R s := by
  refine sl_call0 (binds := [(Str.ofString "self", .ref S.a), (Str.ofString "node", .int k t)]) (fs := [(Str.ofString "node", .int k t), (Str.ofString "self", .ref S.a)]) H G (by k_is) (by k_is) (Nat.lt_trans hA (by decide)) (BindsTo.of_eq rfl) (locs rfl) rfl (fun L s1 H1 => ?_) (by rfl) (by rfl) (by rfl) (by decide)
  (with_reducible refine wpAny_execs_cons ?_); (with_reducible refine wpAny_If ?_); (with_reducible refine wpAny_isTrue_Compare1 ?_); (with_reducible refine wpAny_NamedExpr ?_); (with_reducible show wpAny _ _ (eval (Expr.Call (Expr.Attribute _ _ _) _ _ _) _) _ _ _); refine MethodCall_ ?_; (with_reducible refine Attribute_any_ ?_); (with_reducible show wpAny _ _ (eval (Expr.Name _ _) (envOf _ _ _ _ _)) _ _ _); refine nm_l (by with_reducible assumption) (by with_reducible exact mem_0) (by rfl) ?_ (by rfl) (by rfl) (by decide); (with_reducible show wpAny _ _ (getAttr (Value.ref _) (Str.ofString "_node2info") _) _ _ _); refine ga_n2i (by with_reducible assumption) (by with_reducible assumption) (by with_reducible exact mem_1) (by with_reducible exact mem_2) rfl ?_; intro _ _; (with_reducible show wpAny _ _ (getMethod (Value.ref (Lay.n _)) (Str.ofString "get") _) _ _ _); refine gm_n2i (by with_reducible assumption) (by with_reducible exact mem_3) F.slot_dict_get (by kernel_rfl) ?_; dsimp only; (with_reducible show wpAny _ _ (callWith _ (Value.builtin _) _ (backTo _ (starEach (_ :: _) _)) _) _ _ _); refine cw_mach ?_ (by rfl) (by rfl) (by rfl) (by rfl); (with_reducible show wpAny _ _ (spliced (backTo _ (starEach (_ :: _) _))) _ _ _); refine wpAny_items_cons ?_; (with_reducible show wpAny _ _ (eval (Expr.Name _ _) (envOf _ _ _ _ _)) _ _ _); refine nm_l (by with_reducible assumption) (by with_reducible exact mem_0) (by rfl) ?_ (by rfl) (by rfl) (by decide); (with_reducible show wpAny _ _ (spliced (backTo _ (starEach [] _))) _ _ _); refine wpAny_items_nil ?_; (with_reducible show wpAny _ _ (call (Value.builtin "dict.get") _) _ _ _); refine call_get_n2i (by with_reducible assumption) (by with_reducible exact mem_3) (by with_reducible assumption) (by with_reducible assumption) ?_; intro _ _; (with_reducible refine wpAny_assign_Name ?_); (with_reducible show wpAny _ _ (storeName _ _ _) _ _ _); refine st_l (by with_reducible assumption) (by with_reducible exact rep_0) ?_ (by rfl) (by rfl); intro _ _; (with_reducible refine wpAny_Constant_none ?_); (with_reducible refine is_none ?_); (with_reducible refine wpAny_truthy_bool ?_); ((with_reducible show (ite _ _ _ : Prop)); (refine b_ff ?_ (by ((with_reducible show (Value.ref _ == Value.none) = false); rfl)))); (with_reducible refine wpAny_execs_nil ?_); dsimp only; (with_reducible refine wpAny_execs_cons ?_); (with_reducible refine wpAny_Return_some ?_); dsimp only; (with_reducible show wpAny _ _ (eval (Expr.Name _ _) (envOf _ _ _ _ _)) _ _ _); refine nm_l (by with_reducible assumption) (by with_reducible exact mem_0) (by rfl) ?_ (by rfl) (by rfl) (by decide)
  exact hq _ (St.sub (by with_reducible assumption) (by exact sub_of [false] rfl))
theorem node_new (H : St B s (tsi S :: tsd w S v2 v3 v4 :: n2i S n :: many n (ni S np) :: many n (sl S succ) :: l)) (G : Gd (hd.heap_39 w.params) B.g)
    (hn : n ≤ 6) (hp : np n = 0) (hs : succ n = []) (hA : A.depth < 890) (hh : A.handled = none)
    (hq : ∀ (S' : Lay) s', S'.a = S.a → S'.d = S.d → S'.n = S.n → St B s' (tsi S :: tsd w S v2 v3 v4 :: n2i S' (n + 1) :: many (n + 1) (ni S' np) :: many (n + 1) (sl S' succ) :: l) → R (.ok (.ret (.ref (S'.i n)))) s') :
    codeAny (model PySem.Challenge.pw_xc0002_01 w) A (.call (.ref 73) ⟨[.ref S.a, .int n t], []⟩) R s := by
  refine sl_call0 (binds := [(Str.ofString "self", .ref S.a), (Str.ofString "node", .int n t)]) (fs := [(Str.ofString "node", .int n t), (Str.ofString "self", .ref S.a)]) H G (by k_is) (by k_is) (Nat.lt_trans hA (by decide)) (BindsTo.of_eq rfl) (locs rfl) rfl (fun L s1 H1 => ?_) (by rfl) (by rfl) (by rfl) (by decide)
  have H1 := H1.repWeak (r' := idict PySem.Challenge.pw_xc0002_01 w S.n (kvsN S n)) (.there (.there (.there .here))) n2i_to (fun _ h => h)
  (with_reducible refine wpAny_execs_cons ?_); (with_reducible refine wpAny_If ?_); (with_reducible refine wpAny_isTrue_Compare1 ?_); (with_reducible refine wpAny_NamedExpr ?_); (with_reducible show wpAny _ _ (eval (Expr.Call (Expr.Attribute _ _ _) _ _ _) _) _ _ _); refine MethodCall_ ?_; (with_reducible refine Attribute_any_ ?_); (with_reducible show wpAny _ _ (eval (Expr.Name _ _) (envOf _ _ _ _ _)) _ _ _); refine nm_l (by with_reducible assumption) (by with_reducible exact mem_0) (by rfl) ?_ (by rfl) (by rfl) (by decide); (with_reducible show wpAny _ _ (getAttr (Value.ref _) (Str.ofString "_node2info") _) _ _ _); refine ga_n2i (by with_reducible assumption) (by with_reducible assumption) (by with_reducible exact mem_1) (by with_reducible exact mem_2) rfl ?_; intro _ _
  refine gm_idict (by assumption) (by with_reducible exact mem_3) F.slot_dict_get (by kernel_rfl) ?_
  (with_reducible show wpAny _ _ (callWith _ (Value.builtin _) _ (backTo _ (starEach (_ :: _) _)) _) _ _ _); refine cw_mach ?_ (by rfl) (by rfl) (by rfl) (by rfl); dsimp only; (with_reducible show wpAny _ _ (spliced (backTo _ (starEach (_ :: _) _))) _ _ _); refine wpAny_items_cons ?_; (with_reducible show wpAny _ _ (eval (Expr.Name _ _) (envOf _ _ _ _ _)) _ _ _); refine nm_l (by with_reducible assumption) (by with_reducible exact mem_0) (by rfl) ?_ (by rfl) (by rfl) (by decide); (with_reducible show wpAny _ _ (spliced (backTo _ (starEach [] _))) _ _ _); refine wpAny_items_nil ?_
  refine call_get_idict (by assumption) (by with_reducible exact mem_3) ?_
  intro s2 H2
  rw [kvs_out, Option.getD_none]
  (with_reducible refine wpAny_assign_Name ?_); (with_reducible show wpAny _ _ (storeName _ _ _) _ _ _); refine st_l (by with_reducible assumption) (by with_reducible exact rep_0) ?_ (by rfl) (by rfl); intro _ _; (with_reducible refine wpAny_Constant_none ?_); (with_reducible refine is_none ?_); (with_reducible refine wpAny_truthy_bool ?_)
  refine b_tt ?_ (by rfl)
  (with_reducible refine wpAny_execs_cons ?_); (with_reducible show wpAny _ _ (exec (Stmt.Assign [_, _] _ _) _) _ _ _); refine wpAny_Assign_two ?_; dsimp only; (with_reducible show wpAny _ _ (eval (Expr.Call (Expr.Name _ _) _ _ _) _) _ _ _); refine wpAny_Call_ofName ?_; (with_reducible show wpAny _ _ (eval (Expr.Name _ _) (envOf _ _ _ _ _)) _ _ _); refine nm_g (by with_reducible assumption) (by with_reducible assumption) (by k_is) ?_ (by rfl) (by rfl) (by decide); (with_reducible show wpAny _ _ (callWith _ (Value.ref _) _ (backTo _ (starEach (_ :: _) _)) _) _ _ _); refine cw_fn (by with_reducible assumption) (by k_is) ?_ (by rfl) (by rfl) (by rfl); (with_reducible show wpAny _ _ (spliced (backTo _ (starEach (_ :: _) _))) _ _ _); refine wpAny_items_cons ?_; (with_reducible show wpAny _ _ (eval (Expr.Name _ _) (envOf _ _ _ _ _)) _ _ _); refine nm_l (by with_reducible assumption) (by with_reducible exact mem_0) (by rfl) ?_ (by rfl) (by rfl) (by decide); (with_reducible show wpAny _ _ (spliced (backTo _ (starEach [] _))) _ _ _); refine wpAny_items_nil ?_; (with_reducible show Frag.In _ _ ∧ wpAny _ _ _ _ _ _); refine ⟨St.kin (by with_reducible assumption) (by with_reducible assumption), ?_⟩
  refine own_ni (k := n) (t := t) (by show A.depth + 1 < 900; (first | lia | omega)) hh (by with_reducible assumption) (by with_reducible assumption) ?_
  intro a e q s3 H3
  have H4 := H3 { S with i := fun j => if j = n then a else S.i j, e := fun j => if j = n then e else S.e j, s := fun j => if j = n then q else S.s j } (if_pos rfl) (if_pos rfl) (if_pos rfl)
  generalize hS : ({ S with i := fun j => if j = n then a else S.i j, e := fun j => if j = n then e else S.e j, s := fun j => if j = n then q else S.s j } : Lay) = S' at H4
  have ea : S'.i n = a := by rw [← hS]; exact if_pos rfl
  have eq : S'.s n = q := by rw [← hS]; exact if_pos rfl
  have e1 : many n (ni S np) = many n (ni S' np) := many_congr fun j hj => by rw [← hS]; simp [ni, niC, niObj, Nat.ne_of_lt hj]
  have e2 : many n (sl S succ) = many n (sl S' succ) := many_congr fun j hj => by rw [← hS]; simp [sl, Nat.ne_of_lt hj]
  have e3 : kvsN S n ++ [((n : Int), Value.ref a)] = kvsN S' (n + 1) := by
    unfold kvsN
    rw [List.range_succ, List.map_append, List.map_cons, List.map_nil, ea]
    congr 1
    refine List.map_congr_left fun j hj => ?_
    rw [← hS]; simp [Nat.ne_of_lt (List.mem_range.mp hj)]
  have e4 : niC S' n 0 = ni S' np n := by unfold ni; rw [hp]
  have e5 : ilst q [] = sl S' succ n := by unfold sl; rw [hs, eq]
  have e6 : S'.n = S.n := by rw [← hS]
  have e7 : S'.a = S.a := by rw [← hS]
  have e8 : S'.d = S.d := by rw [← hS]
  rw [e1, e2, e4, e5] at H4
  clear H3 hS
  (with_reducible show wpAny _ _ (assign (Expr.Subscript _ _ _) _ _) _ _ _); refine assign_sub ?_; (with_reducible refine Attribute_any_ ?_); (with_reducible show wpAny _ _ (eval (Expr.Name _ _) (envOf _ _ _ _ _)) _ _ _); refine nm_l (by with_reducible assumption) (by with_reducible exact mem_2) (by rfl) ?_ (by rfl) (by rfl) (by decide); (with_reducible show wpAny _ _ (getAttr (Value.ref _) (Str.ofString "_node2info") _) _ _ _); refine ga_n2i (by with_reducible assumption) (by with_reducible assumption) (by with_reducible exact mem_3) (by with_reducible exact mem_4) rfl ?_; intro _ _; (with_reducible show wpAny _ _ (eval (Expr.Name _ _) (envOf _ _ _ _ _)) _ _ _); refine nm_l (by with_reducible assumption) (by with_reducible exact mem_2) (by rfl) ?_ (by rfl) (by rfl) (by decide)
  refine si_idict (by assumption) (by with_reducible exact rep_5) (by simp [kvsN]; (first | lia | omega)) ?_
  intro s5 H5
  rw [kvs_stored, e3] at H5
  have H6 : St B s5 (many n (ni S' np) :: ni S' np n :: many n (sl S' succ) :: sl S' succ n :: frame L [(Str.ofString "result", Value.none), (Str.ofString "node", .int n t), (Str.ofString "self", .ref S.a)] :: tsi S :: tsd w S v2 v3 v4 :: idict PySem.Challenge.pw_xc0002_01 w S.n (kvsN S' (n + 1)) :: l) :=
    St.perm H5 (by exact permP_perm [6, 0, 5] _)
  have H7 : St B s5 (many (n + 1) (sl S' succ) :: many (n + 1) (ni S' np) :: frame L [(Str.ofString "result", Value.none), (Str.ofString "node", .int n t), (Str.ofString "self", .ref S.a)] :: tsi S :: tsd w S v2 v3 v4 :: idict PySem.Challenge.pw_xc0002_01 w S.n (kvsN S' (n + 1)) :: l) :=
    St.join (St.perm H6.join (by exact permP_perm [1, 1] _))
  have H8 := H7.repWeak (r' := n2i S' (n + 1)) (.there (.there (.there (.there (.there .here))))) (fun x => n2i_of (prog := PySem.Challenge.pw_xc0002_01) (w := w) (by rw [e6]; exact x)) (fun b hb => by rw [← e6]; exact hb)
  (with_reducible refine wpAny_assign_Name ?_); (with_reducible show wpAny _ _ (storeName _ _ _) _ _ _); refine st_l (by with_reducible assumption) (by with_reducible exact rep_2) ?_ (by rfl) (by rfl); intro _ _; (with_reducible refine wpAny_execs_nil ?_); dsimp only; (with_reducible refine wpAny_execs_cons ?_); (with_reducible refine wpAny_Return_some ?_); dsimp only; (with_reducible show wpAny _ _ (eval (Expr.Name _ _) (envOf _ _ _ _ _)) _ _ _); refine nm_l (by with_reducible assumption) (by with_reducible exact mem_2) (by rfl) ?_ (by rfl) (by rfl) (by decide)
  have H9 := hq S' _ e7 e8 e6 (St.sub (St.perm (by with_reducible assumption) (l' := frame L [(Str.ofString "result", Value.ref a), (Str.ofString "result", Value.none), (Str.ofString "node", .int n t), (Str.ofString "self", .ref S.a)] :: tsi S :: tsd w S v2 v3 v4 :: n2i S' (n + 1) :: many (n + 1) (ni S' np) :: many (n + 1) (sl S' succ) :: l) (by exact permP_perm [2, 2, 2, 2, 1] _)) (by exact sub_of [false] rfl))
  rw [ea] at H9
  exact H9
end
end
section
open PySem PySem.W PyProof.Rows PySem.Calls PySem.Spec
section
variable {w : World} {A : Around} {s : Shared} {B : Bs} {l : List Reg} {S : Lay} {R : Result → Shared → Prop} {v3 v4 : Value} {np : Nat → Int} {succ : Nat → List Int} {n : Nat} {k : Int} {t : Nat}
theorem add_new (H : St B s (tsi S :: tsd w S .none v3 v4 :: n2i S n :: many n (ni S np) :: many n (sl S succ) :: l)) (G : Gd (hd.heap_39 w.params) B.g)
    (hn : n < 6) (hp : np n = 0) (hs : succ n = []) (hA : A.depth < 880) (hh : A.handled = none)
    (hq : ∀ (S' : Lay) s', S'.a = S.a → S'.d = S.d → S'.n = S.n → St B s' (tsi S' :: tsd w S' .none v3 v4 :: n2i S' (n + 1) :: many (n + 1) (ni S' np) :: many (n + 1) (sl S' succ) :: l) → R (.ok (.ret .none)) s') :
    codeAny (model PySem.Challenge.pw_xc0002_01 w) A (.call (.ref 80) ⟨[.ref S.a, .int n t], []⟩) R s := by
  refine sl_callV0 (front := [(Str.ofString "self", .ref S.a), (Str.ofString "node", .int n t)]) (fs := [(Str.ofString "node", .int n t), (Str.ofString "self", .ref S.a)]) (nr := Str.ofString "predecessors") (vs := []) (xs := []) H G (by k_is) (by k_is) (Nat.lt_trans hA (by decide)) rfl .nil (by simp) (fun v => locs rfl) rfl (fun tu L s1 H1 => ?_) (by rfl) (by rfl) (by rfl) (by decide)
  refine post_named fun QF hQF => ?_
  (with_reducible refine wpAny_execs_cons ?_); (with_reducible refine wpAny_If ?_); (with_reducible refine wpAny_isTrue_Compare1 ?_); (with_reducible refine Attribute_any_ ?_); (with_reducible show wpAny _ _ (eval (Expr.Name _ _) (envOf _ _ _ _ _)) _ _ _); refine nm_l (by with_reducible assumption) (by with_reducible exact mem_0) (by rfl) ?_ (by rfl) (by rfl) (by decide); (with_reducible show wpAny _ _ (getAttr (Value.ref _) (Str.ofString "_ready_nodes") _) _ _ _); refine ga_ready (by with_reducible assumption) (by with_reducible assumption) (by with_reducible exact mem_2) (by with_reducible exact mem_3) rfl ?_; intro _ _; (with_reducible refine wpAny_Constant_none ?_); (with_reducible refine isNot_none ?_); (with_reducible refine wpAny_truthy_bool ?_)
  refine b_ff ?_ (by rfl)
  (with_reducible refine wpAny_execs_nil ?_); dsimp only; (with_reducible refine wpAny_execs_cons ?_); (with_reducible show wpAny _ _ (exec (Stmt.Assign [Expr.Name _ _] _ _) _) _ _ _); refine wpAny_Assign_Name ?_; dsimp only; (with_reducible show wpAny _ _ (eval (Expr.Call (Expr.Attribute _ _ _) _ _ _) _) _ _ _); refine MethodCall_ ?_; (with_reducible show wpAny _ _ (eval (Expr.Name _ _) (envOf _ _ _ _ _)) _ _ _); refine nm_l (by with_reducible assumption) (by with_reducible exact mem_0) (by rfl) ?_ (by rfl) (by rfl) (by decide)
  refine gm_ts (f := 73) (by assumption) (by assumption) (by with_reducible exact mem_2) (by with_reducible exact mem_3) (by k_is) (by k_is) (by k_is) (fun _ _ _ _ _ => rfl) ?_
  (with_reducible show wpAny _ _ (callWith _ (Value.ref _) _ (backTo _ (starEach (_ :: _) _)) _) _ _ _); refine cw_fn (by with_reducible assumption) (by k_is) ?_ (by rfl) (by rfl) (by rfl); dsimp only; (with_reducible show wpAny _ _ (spliced (backTo _ (starEach (_ :: _) _))) _ _ _); refine wpAny_items_cons ?_; (with_reducible show wpAny _ _ (eval (Expr.Name _ _) (envOf _ _ _ _ _)) _ _ _); refine nm_l (by with_reducible assumption) (by with_reducible exact mem_0) (by rfl) ?_ (by rfl) (by rfl) (by decide); (with_reducible show wpAny _ _ (spliced (backTo _ (starEach [] _))) _ _ _); refine wpAny_items_nil ?_; (with_reducible show Frag.In _ _ ∧ wpAny _ _ _ _ _ _); refine ⟨St.kin (by with_reducible assumption) (by with_reducible assumption), ?_⟩
  refine wpAny_call ?_
  refine node_new (l := frame L _ :: itup tu [] :: l) (St.perm (by assumption) (by exact permP_perm [2, 2, 2, 2, 2] _)) G (by (first | lia | omega)) hp hs ?_ ?_ ?_
  · show A.depth + 1 < 890; (first | lia | omega)
  · exact hh
  intro S' s3 e1 e2 e3 H3
  unfold tsi tsd at H3
  rw [← e1, ← e2, ← e3] at H3
  dsimp only
  (with_reducible show wpAny _ _ (storeName _ _ _) _ _ _); refine st_l (by with_reducible assumption) (by with_reducible exact rep_5) ?_ (by rfl) (by rfl); intro _ _; (with_reducible refine wpAny_execs_cons ?_); (with_reducible refine wpAny_AugAssign_AttributeAny ?_); dsimp only; (with_reducible show wpAny _ _ (eval (Expr.Name _ _) (envOf _ _ _ _ _)) _ _ _); refine nm_l (by with_reducible assumption) (by with_reducible exact mem_5) (by rfl) ?_ (by rfl) (by rfl) (by decide); (with_reducible show wpAny _ _ (getAttr (Value.ref _) (Str.ofString "npredecessors") _) _ _ _); refine ga_np (by with_reducible assumption) (by with_reducible assumption) (by with_reducible exact mem_3) (by (first | lia | omega)) ?_; intro _ _ _; (with_reducible show wpAny _ _ (eval (Expr.Call (Expr.Name _ _) _ _ _) _) _ _ _); refine wpAny_Call_ofName ?_; (with_reducible show wpAny _ _ (eval (Expr.Name _ _) (envOf _ _ _ _ _)) _ _ _); refine nm_b (v := .builtin "len") (by with_reducible assumption) (by with_reducible assumption) (by k_is) (by rfl) ?_ (by decide) (by rfl) (by rfl) (by decide); (with_reducible show wpAny _ _ (callWith _ (Value.builtin _) _ (backTo _ (starEach (_ :: _) _)) _) _ _ _); refine cw_mach ?_ (by rfl) (by rfl) (by rfl) (by rfl); (with_reducible show wpAny _ _ (spliced (backTo _ (starEach (_ :: _) _))) _ _ _); refine wpAny_items_cons ?_; (with_reducible show wpAny _ _ (eval (Expr.Name _ _) (envOf _ _ _ _ _)) _ _ _); refine nm_l (by with_reducible assumption) (by with_reducible exact mem_5) (by rfl) ?_ (by rfl) (by rfl) (by decide); (with_reducible show wpAny _ _ (spliced (backTo _ (starEach [] _))) _ _ _); refine wpAny_items_nil ?_; (with_reducible show wpAny _ _ (call (Value.builtin "len") _) _ _ _); refine len_itup (by with_reducible assumption) (by with_reducible exact mem_6) (by (simp_all; done)) ?_; intro _ _ _; (with_reducible show wpAny _ _ (inplaceOp .Add (Value.int _ _) (Value.int _ _)) _ _ _); refine ii_add (by with_reducible assumption) ?_; intro _ _ _
  refine sa_np (np' := np) (by with_reducible assumption) (by assumption) (by with_reducible exact rep_3) (by (first | lia | omega)) (by rw [hp]; rfl) (fun j hj => rfl) ?_
  intro s5 H5
  (with_reducible refine wpAny_execs_cons ?_); (with_reducible show wpAny _ _ (exec (Stmt.For _ _ _ _ _) _) _ _ _); refine wpAny_For ?_; (with_reducible show wpAny _ _ (eval (Expr.Name _ _) (envOf _ _ _ _ _)) _ _ _); refine nm_l (by with_reducible assumption) (by with_reducible exact mem_5) (by rfl) ?_ (by rfl) (by rfl) (by decide)
  refine iter_itup (by assumption) (by with_reducible exact mem_6) ?_
  intro it s6 H6
  refine for_itup (xs := []) (I := fun i l' => l' = _) hh H6 rfl (fun i l' e => by subst e; with_reducible exact mem_6) ?_ ?_
  · rintro i tk l₁ s₁ hi
    exact absurd hi (Nat.not_lt_zero _)
  · rintro l₁ s₁ rfl H7
    (with_reducible refine wpAny_execs_nil ?_)
    subst hQF
    exact hq _ _ e1 e2 e3 (St.sub (St.perm (by with_reducible assumption) (l' := frame L _ :: itup tu [] :: tsi S' :: tsd w S' .none v3 v4 :: n2i S' (n + 1) :: many (n + 1) (ni S' np) :: many (n + 1) (sl S' succ) :: l) (by exact permP_perm [5, 5] _)) (by exact sub_of [false, false] rfl))
theorem add_edge {prog : Program} {x y : Int} {tx ty : Nat} (H : St B s (tsi S :: tsd w S .none v3 v4 :: n2i S 6 :: nis S np :: sls S succ :: l)) (G : Gd (hd.heap_39 w.params) B.g)
    (hx0 : 0 ≤ x) (hx6 : x < 6) (hy0 : 0 ≤ y) (hy6 : y < 6) (hs : ∀ j, (succ j).length ≤ 100) (hA : A.depth < 880) (hh : A.handled = none)
    (hq : ∀ s', St B s' (tsi S :: tsd w S .none v3 v4 :: n2i S 6 :: nis S (set1 np x.toNat (np x.toNat + 1)) :: sls S (fun j => if j = y.toNat then succ j ++ [x] else succ j) :: l) → R (.ok (.ret .none)) s') :
    codeAny (model prog w) A (.call (.ref 80) ⟨[.ref S.a, .int x tx, .int y ty], []⟩) R s := by
  refine sl_callV0 (front := [(Str.ofString "self", .ref S.a), (Str.ofString "node", .int x tx)]) (fs := [(Str.ofString "node", .int x tx), (Str.ofString "self", .ref S.a)]) (nr := Str.ofString "predecessors") (vs := [.int y ty]) (xs := [y]) H G (by k_is) (by k_is) (Nat.lt_trans hA (by decide)) rfl (.cons y ty .nil) (by simp) (fun v => locs rfl) rfl (fun tu L s1 H1 => ?_) (by rfl) (by rfl) (by rfl) (by decide)
  refine post_named fun QF hQF => ?_
  (with_reducible refine wpAny_execs_cons ?_); (with_reducible refine wpAny_If ?_); (with_reducible refine wpAny_isTrue_Compare1 ?_); (with_reducible refine Attribute_any_ ?_); (with_reducible show wpAny _ _ (eval (Expr.Name _ _) (envOf _ _ _ _ _)) _ _ _); refine nm_l (by with_reducible assumption) (by with_reducible exact mem_0) (by rfl) ?_ (by rfl) (by rfl) (by decide); (with_reducible show wpAny _ _ (getAttr (Value.ref _) (Str.ofString "_ready_nodes") _) _ _ _); refine ga_ready (by with_reducible assumption) (by with_reducible assumption) (by with_reducible exact mem_2) (by with_reducible exact mem_3) rfl ?_; intro _ _; (with_reducible refine wpAny_Constant_none ?_); (with_reducible refine isNot_none ?_); (with_reducible refine wpAny_truthy_bool ?_)
  refine b_ff ?_ (by rfl)
  (with_reducible refine wpAny_execs_nil ?_); dsimp only; (with_reducible refine wpAny_execs_cons ?_); (with_reducible show wpAny _ _ (exec (Stmt.Assign [Expr.Name _ _] _ _) _) _ _ _); refine wpAny_Assign_Name ?_; dsimp only; (with_reducible show wpAny _ _ (eval (Expr.Call (Expr.Attribute _ _ _) _ _ _) _) _ _ _); refine MethodCall_ ?_; (with_reducible show wpAny _ _ (eval (Expr.Name _ _) (envOf _ _ _ _ _)) _ _ _); refine nm_l (by with_reducible assumption) (by with_reducible exact mem_0) (by rfl) ?_ (by rfl) (by rfl) (by decide)
  refine gm_ts (f := 73) (by assumption) (by assumption) (by with_reducible exact mem_2) (by with_reducible exact mem_3) (by k_is) (by k_is) (by k_is) (fun _ _ _ _ _ => rfl) ?_
  (with_reducible show wpAny _ _ (callWith _ (Value.ref _) _ (backTo _ (starEach (_ :: _) _)) _) _ _ _); refine cw_fn (by with_reducible assumption) (by k_is) ?_ (by rfl) (by rfl) (by rfl); dsimp only; (with_reducible show wpAny _ _ (spliced (backTo _ (starEach (_ :: _) _))) _ _ _); refine wpAny_items_cons ?_; (with_reducible show wpAny _ _ (eval (Expr.Name _ _) (envOf _ _ _ _ _)) _ _ _); refine nm_l (by with_reducible assumption) (by with_reducible exact mem_0) (by rfl) ?_ (by rfl) (by rfl) (by decide); (with_reducible show wpAny _ _ (spliced (backTo _ (starEach [] _))) _ _ _); refine wpAny_items_nil ?_; (with_reducible show Frag.In _ _ ∧ wpAny _ _ _ _ _ _); refine ⟨St.kin (by with_reducible assumption) (by with_reducible assumption), ?_⟩
  refine wpAny_call ?_
  refine node_old (n := 6) (l := frame L _ :: itup tu [y] :: nis S np :: sls S succ :: l) (St.perm (by assumption) (by exact permP_perm [2, 2, 2] _)) G ?_ ?_ hx0 hx6 ?_
  · show A.depth + 1 < 890; (first | lia | omega)
  · exact hh
  intro s3 H3
  dsimp only
  (with_reducible show wpAny _ _ (storeName _ _ _) _ _ _); refine st_l (by with_reducible assumption) (by with_reducible exact rep_3) ?_ (by rfl) (by rfl); intro _ _; (with_reducible refine wpAny_execs_cons ?_); (with_reducible refine wpAny_AugAssign_AttributeAny ?_); dsimp only; (with_reducible show wpAny _ _ (eval (Expr.Name _ _) (envOf _ _ _ _ _)) _ _ _); refine nm_l (by with_reducible assumption) (by with_reducible exact mem_3) (by rfl) ?_ (by rfl) (by rfl) (by decide); (with_reducible show wpAny _ _ (getAttr (Value.ref _) (Str.ofString "npredecessors") _) _ _ _); refine ga_np (by with_reducible assumption) (by with_reducible assumption) (by with_reducible exact mem_5) (by (first | lia | omega)) ?_; intro _ _ _; (with_reducible show wpAny _ _ (eval (Expr.Call (Expr.Name _ _) _ _ _) _) _ _ _); refine wpAny_Call_ofName ?_; (with_reducible show wpAny _ _ (eval (Expr.Name _ _) (envOf _ _ _ _ _)) _ _ _); refine nm_b (v := .builtin "len") (by with_reducible assumption) (by with_reducible assumption) (by k_is) (by rfl) ?_ (by decide) (by rfl) (by rfl) (by decide); (with_reducible show wpAny _ _ (callWith _ (Value.builtin _) _ (backTo _ (starEach (_ :: _) _)) _) _ _ _); refine cw_mach ?_ (by rfl) (by rfl) (by rfl) (by rfl); (with_reducible show wpAny _ _ (spliced (backTo _ (starEach (_ :: _) _))) _ _ _); refine wpAny_items_cons ?_; (with_reducible show wpAny _ _ (eval (Expr.Name _ _) (envOf _ _ _ _ _)) _ _ _); refine nm_l (by with_reducible assumption) (by with_reducible exact mem_3) (by rfl) ?_ (by rfl) (by rfl) (by decide); (with_reducible show wpAny _ _ (spliced (backTo _ (starEach [] _))) _ _ _); refine wpAny_items_nil ?_; (with_reducible show wpAny _ _ (call (Value.builtin "len") _) _ _ _); refine len_itup (by with_reducible assumption) (by with_reducible exact mem_4) (by (simp_all; done)) ?_; intro _ _ _; (with_reducible show wpAny _ _ (inplaceOp .Add (Value.int _ _) (Value.int _ _)) _ _ _); refine ii_add (by with_reducible assumption) ?_; intro _ _ _
  refine sa_np (np' := set1 np x.toNat (np x.toNat + 1)) (by with_reducible assumption) (by assumption) (by with_reducible exact rep_5) (by (first | lia | omega)) (set1_self _ _ _) (fun j hj => set1_ne hj) ?_
  intro s5 H5
  (with_reducible refine wpAny_execs_cons ?_); (with_reducible show wpAny _ _ (exec (Stmt.For _ _ _ _ _) _) _ _ _); refine wpAny_For ?_; (with_reducible show wpAny _ _ (eval (Expr.Name _ _) (envOf _ _ _ _ _)) _ _ _); refine nm_l (by with_reducible assumption) (by with_reducible exact mem_3) (by rfl) ?_ (by rfl) (by rfl) (by decide)
  refine iter_itup (by assumption) (by with_reducible exact mem_4) ?_
  intro it s6 H6
  have H6 := St.reframe (fs' := [(Str.ofString "predecessors", Value.ref tu), (Str.ofString "node", .int x tx), (Str.ofString "self", .ref S.a)]) (L := L) H6 (by with_reducible exact rep_4) (by exact Framed.of rfl)
  obtain ⟨I0, hI0⟩ : ∃ I0 : Nat → List Reg → Prop, I0 = (fun i l' => ∃ sc, (i = 0 → sc = succ) ∧ (i = 1 → sc = fun j => if j = y.toNat then succ j ++ [x] else succ j) ∧ l' = frame L [(Str.ofString "predecessors", Value.ref tu), (Str.ofString "node", .int x tx), (Str.ofString "self", .ref S.a)] :: itup tu [y] :: tsi S :: tsd w S .none v3 v4 :: n2i S 6 :: nis S (set1 np x.toNat (np x.toNat + 1)) :: sls S sc :: l) := ⟨_, rfl⟩
  refine for_itup (xs := [y]) (I := I0) hh
    (St.perm (l' := titer it tu 0 :: frame L [(Str.ofString "predecessors", Value.ref tu), (Str.ofString "node", .int x tx), (Str.ofString "self", .ref S.a)] :: itup tu [y] :: tsi S :: tsd w S .none v3 v4 :: n2i S 6 :: nis S (set1 np x.toNat (np x.toNat + 1)) :: sls S succ :: l) H6 (by exact permP_perm [0, 3, 3] _)) (by rw [hI0]; exact ⟨succ, fun _ => rfl, fun h => absurd h (by decide), rfl⟩) (fun i l' e => by rw [hI0] at e; obtain ⟨_, _, _, rfl⟩ := e; with_reducible exact mem_1) ?_ ?_
  · rintro i tk l₁ s₁ hi hI H7
    rw [hI0] at hI
    obtain ⟨sc, e0, _, rfl⟩ := hI
    have hi : i = 0 := by simpa using hi
    subst hi
    have e0 := e0 rfl
    subst e0
    rw [show [y][0] = y from rfl]
    (with_reducible refine wpAny_assign_Name ?_); dsimp only; (with_reducible show wpAny _ _ (storeName _ _ _) _ _ _); refine st_l (by with_reducible assumption) (by with_reducible exact rep_1) ?_ (by rfl) (by rfl); intro _ _
    refine posts_named fun Q0 E0 hQ0 hE0 => ?_
    (with_reducible refine wpAny_execs_cons ?_); (with_reducible show wpAny _ _ (exec (Stmt.Assign [Expr.Name _ _] _ _) _) _ _ _); refine wpAny_Assign_Name ?_; dsimp only; (with_reducible show wpAny _ _ (eval (Expr.Call (Expr.Attribute _ _ _) _ _ _) _) _ _ _); refine MethodCall_ ?_; (with_reducible show wpAny _ _ (eval (Expr.Name _ _) (envOf _ _ _ _ _)) _ _ _); refine nm_l (by with_reducible assumption) (by with_reducible exact mem_1) (by rfl) ?_ (by rfl) (by rfl) (by decide)
    refine gm_ts (f := 73) (by assumption) (by assumption) (by with_reducible exact mem_3) (by with_reducible exact mem_4) (by k_is) (by k_is) (by k_is) (fun _ _ _ _ _ => rfl) ?_
    (with_reducible show wpAny _ _ (callWith _ (Value.ref _) _ (backTo _ (starEach (_ :: _) _)) _) _ _ _); refine cw_fn (by with_reducible assumption) (by k_is) ?_ (by rfl) (by rfl) (by rfl); dsimp only; (with_reducible show wpAny _ _ (spliced (backTo _ (starEach (_ :: _) _))) _ _ _); refine wpAny_items_cons ?_; (with_reducible show wpAny _ _ (eval (Expr.Name _ _) (envOf _ _ _ _ _)) _ _ _); refine nm_l (by with_reducible assumption) (by with_reducible exact mem_1) (by rfl) ?_ (by rfl) (by rfl) (by decide); (with_reducible show wpAny _ _ (spliced (backTo _ (starEach [] _))) _ _ _); refine wpAny_items_nil ?_; (with_reducible show Frag.In _ _ ∧ wpAny _ _ _ _ _ _); refine ⟨St.kin (by with_reducible assumption) (by with_reducible assumption), ?_⟩
    refine wpAny_call ?_
    refine node_old (n := 6) (l := titer it tu (0 + 1) :: frame L _ :: itup tu [y] :: nis S (set1 np x.toNat (np x.toNat + 1)) :: sls S sc :: l) (St.perm (by assumption) (by exact permP_perm [3, 3, 3] _)) G ?_ ?_ hy0 hy6 ?_
    · show A.depth + 1 < 890; (first | lia | omega)
    · exact hh
    intro s8 H8
    dsimp only
    (with_reducible show wpAny _ _ (storeName _ _ _) _ _ _); refine st_l (by with_reducible assumption) (by with_reducible exact rep_4) ?_ (by rfl) (by rfl); intro _ _; (with_reducible refine wpAny_execs_cons ?_); (with_reducible show wpAny _ _ (exec (Stmt.Expr _ _) _) _ _ _); refine wpAny_Expr_any ?_; dsimp only; (with_reducible show wpAny _ _ (eval (Expr.Call (Expr.Attribute _ _ _) _ _ _) _) _ _ _); refine MethodCall_ ?_; (with_reducible refine Attribute_any_ ?_); (with_reducible show wpAny _ _ (eval (Expr.Name _ _) (envOf _ _ _ _ _)) _ _ _); refine nm_l (by with_reducible assumption) (by with_reducible exact mem_4) (by rfl) ?_ (by rfl) (by rfl) (by decide); (with_reducible show wpAny _ _ (getAttr (Value.ref _) (Str.ofString "successors") _) _ _ _); refine ga_succ (by with_reducible assumption) (by with_reducible assumption) (by with_reducible exact mem_6) (by (first | lia | omega)) ?_; intro _ _
    refine gm_sl (k := y.toNat) (S := S) (by assumption) (by with_reducible exact mem_7) (by (first | lia | omega)) F.slot_list_append (by kernel_rfl) ?_
    (with_reducible show wpAny _ _ (callWith _ (Value.builtin _) _ (backTo _ (starEach (_ :: _) _)) _) _ _ _); refine cw_mach ?_ (by rfl) (by rfl) (by rfl) (by rfl); dsimp only; (with_reducible show wpAny _ _ (spliced (backTo _ (starEach (_ :: _) _))) _ _ _); refine wpAny_items_cons ?_; (with_reducible show wpAny _ _ (eval (Expr.Name _ _) (envOf _ _ _ _ _)) _ _ _); refine nm_l (by with_reducible assumption) (by with_reducible exact mem_4) (by rfl) ?_ (by rfl) (by rfl) (by decide); (with_reducible show wpAny _ _ (spliced (backTo _ (starEach [] _))) _ _ _); refine wpAny_items_nil ?_
    refine append_sl (k := y.toNat) (S := S) (succ' := fun j => if j = y.toNat then sc j ++ [x] else sc j) (by assumption) (by with_reducible exact rep_7) (by (first | lia | omega)) (by have := hs y.toNat; (first | lia | omega)) (if_pos rfl) (fun j hj => if_neg hj) ?_
    intro s9 H9
    (with_reducible refine wpAny_execs_nil ?_)
    subst hQ0
    refine ⟨_, by rw [hI0]; exact ⟨_, fun h => absurd h (by decide), fun _ => rfl, rfl⟩, ?_⟩
    refine St.perm (St.reframe (fs' := [(Str.ofString "predecessors", Value.ref tu), (Str.ofString "node", .int x tx), (Str.ofString "self", .ref S.a)]) (L := L) (by with_reducible assumption) (by with_reducible exact rep_4) (by exact Framed.of rfl)) (by exact permP_perm [3, 3, 3] _)
  · rintro l₁ s₁ hI H7
    rw [hI0] at hI
    obtain ⟨sc, _, e1, rfl⟩ := hI
    (with_reducible refine wpAny_execs_nil ?_)
    have e1 := e1 rfl
    subst e1
    subst hQF
    exact hq _ (H7.sub (by exact sub_of [false, false] rfl))
end
end
section
open PySem PySem.W PyProof.Rows PySem.Calls PySem.Spec
noncomputable abbrev Edges := (Nat → Int) × (Nat → List Int)
noncomputable def addE (st : Edges) (x y : Int) : Edges := (set1 st.1 x.toNat (st.1 x.toNat + 1), fun j => if j = y.toNat then st.2 j ++ [x] else st.2 j)
noncomputable def addRow (needs : Nat → List Int) (st : Edges) (k : Nat) : Edges := (needs k).foldl (fun st y => addE st k y) st
noncomputable def built0 : Edges := (fun _ => 0, fun _ => [])
noncomputable def built (needs : Nat → List Int) : Edges := (List.range 6).foldl (addRow needs) built0
theorem addE_len (st : Edges) (x y : Int) (j : Nat) : ((addE st x y).2 j).length ≤ (st.2 j).length + 1 := by
  unfold addE; dsimp only; split <;> simp
theorem addEs_len (ys : List Int) (x : Int) : ∀ (st : Edges) (j : Nat), ((ys.foldl (fun st y => addE st x y) st).2 j).length ≤ (st.2 j).length + ys.length := by
  induction ys with
  | nil => intro st j; simp
  | cons y ys ih => intro st j; have h1 := ih (addE st x y) j; have h2 := addE_len st x y j; simp only [List.foldl_cons, List.length_cons]; (first | lia | omega)
theorem addRows_len {needs : Nat → List Int} (hz : ∀ k, (needs k).length ≤ 14) (ks : List Nat) : ∀ (st : Edges) (j : Nat), ((ks.foldl (addRow needs) st).2 j).length ≤ (st.2 j).length + 14 * ks.length := by
  induction ks with
  | nil => intro st j; simp
  | cons k ks ih =>
    intro st j
    have h1 := ih (addRow needs st k) j
    have h2 := addEs_len (needs k) k st j
    have h3 := hz k
    simp only [List.foldl_cons, List.length_cons]
    unfold addRow at h1 ⊢
    (first | lia | omega)
section
variable {w : World} {A : Around} {s : Shared} {B : Bs} {l : List Reg} {T : Lay} {R : Result → Shared → Prop} {needs : Nat → List Int}
set_option tactic.hygienic true in
theorem law_sorter_ok (H : St B s (outer T :: sls T needs :: l)) (G : Gd (hd.heap_39 w.params) B.g)
    (hn : ∀ j, j < 6 → ∀ x ∈ needs j, 0 ≤ x ∧ x < 6) (hA : A.depth < 870) (hh : A.handled = none)
    (hz : ∀ k, (needs k).length ≤ 14)
    (hq : ∀ (S : Lay) t3 t4 s', St B s' (tsi S :: tsd w S .none (.int 0 t3) (.int 0 t4) :: n2i S 6 :: nis S ((built needs).1) :: sls S ((built needs).2) :: outer T :: sls T needs :: l) → R (.ok (.ret (.ref S.a))) s') :
    codeAny (model PySem.Challenge.pw_xc0002_01 w) A (.call (.ref 158) ⟨[.ref T.a], []⟩) R s := by
  refine sl_call0 (binds := [(Str.ofString "needs", .ref T.a)]) (fs := [(Str.ofString "needs", .ref T.a)]) H G (by k_is) (by k_is) (Nat.lt_trans hA (by decide)) (BindsTo.of_eq rfl) (locs rfl) rfl (fun L s1 H1 => ?_) (by rfl) (by rfl) (by rfl) (by decide)
  refine post_named fun QF hQF => ?_
  (with_reducible refine wpAny_execs_cons ?_); (with_reducible show wpAny _ _ (exec (Stmt.Assign [Expr.Name _ _] _ _) _) _ _ _); refine wpAny_Assign_Name ?_; dsimp only; (with_reducible show wpAny _ _ (eval (Expr.Call (Expr.Name _ _) _ _ _) _) _ _ _); refine wpAny_Call_ofName ?_; (with_reducible show wpAny _ _ (eval (Expr.Name _ _) (envOf _ _ _ _ _)) _ _ _); refine nm_g (by with_reducible assumption) (by with_reducible assumption) (by k_is) ?_ (by rfl) (by rfl) (by decide); (with_reducible show wpAny _ _ (callWith _ (Value.ref _) _ (backTo _ (starEach [] _)) _) _ _ _); refine cw_fn0 (by with_reducible assumption) (by with_reducible assumption) (by k_is) ?_ (by rfl)
  refine own_ts (by show A.depth + 1 < 900; (first | lia | omega)) hh (by with_reducible assumption) G ?_
  intro a d n t3 t4 s2 H2
  have H3 := St.repWeak (r' := n2i ⟨a, d, n, fun _ => 0, fun _ => 0, fun _ => 0⟩ 0) H2 (.there (.there .here)) (fun ⟨o, ho, h1, h2⟩ => ⟨o, ho, h1, #[], 0, h2, rfl, fun j hj => absurd hj (Nat.not_lt_zero _)⟩) (fun _ h => h)
  have H4 := St.star0 (St.star0 H3)
  clear H2 H3
  (with_reducible show wpAny _ _ (storeName _ _ _) _ _ _); refine st_l (by with_reducible assumption) (by with_reducible exact rep_5) ?_ (by rfl) (by rfl); intro _ _; (with_reducible refine wpAny_execs_cons ?_); (with_reducible show wpAny _ _ (exec (Stmt.For _ _ _ _ _) _) _ _ _); refine wpAny_For ?_; (with_reducible show wpAny _ _ (eval (Expr.Call (Expr.Name _ _) _ _ _) _) _ _ _); refine wpAny_Call_ofName ?_; (with_reducible show wpAny _ _ (eval (Expr.Name _ _) (envOf _ _ _ _ _)) _ _ _); refine nm_b (v := .type "range") (by with_reducible assumption) (by with_reducible assumption) (by k_is) (by rfl) ?_ (by decide) (by rfl) (by rfl) (by decide); (with_reducible show wpAny _ _ (callWith _ (Value.type _) _ (backTo _ (starEach (_ :: _) _)) _) _ _ _); refine cw_mach ?_ (by rfl) (by rfl) (by rfl) (by rfl); (with_reducible show wpAny _ _ (spliced (backTo _ (starEach (_ :: _) _))) _ _ _); refine wpAny_items_cons ?_; (with_reducible show wpAny _ _ (eval (Expr.Constant (Const.int _) _ _) _) _ _ _); refine const_int (by with_reducible assumption) ?_; intro _ _ _; (with_reducible show wpAny _ _ (spliced (backTo _ (starEach [] _))) _ _ _); refine wpAny_items_nil ?_; (with_reducible show wpAny _ _ (call (Value.type "range") ([] ++ [Value.int _ _])) _ _ _); refine call_rng1 (by with_reducible assumption) ?_; intro _ _ _
  refine iter_rng (n := 6) (by with_reducible assumption) (by with_reducible exact mem_0) (by (first | lia | omega)) (by (first | lia | omega)) (.inl rfl) ?_
  intro it s5 H5
  have H5 : St B s5 (riter it 0 6 0 :: frame L [(Str.ofString "sorter", .ref a), (Str.ofString "needs", .ref T.a)] :: tsI a d :: tsD w.params d (.ref n) .none (.int 0 t3) (.int 0 t4) :: n2i ⟨a, d, n, fun _ => 0, fun _ => 0, fun _ => 0⟩ 0 :: star [] :: star [] :: outer T :: sls T needs :: l) :=
    St.sub (St.perm H5 (l' := rng _ _ _ :: riter it 0 6 0 :: frame L [(Str.ofString "sorter", .ref a), (Str.ofString "needs", .ref T.a)] :: tsI a d :: tsD w.params d (.ref n) .none (.int 0 t3) (.int 0 t4) :: n2i ⟨a, d, n, fun _ => 0, fun _ => 0, fun _ => 0⟩ 0 :: star [] :: star [] :: outer T :: sls T needs :: l) (by exact permP_perm [1, 0, 5, 2, 2, 2] _)) (by exact sub_of [false] rfl)
  obtain ⟨I0, hI0⟩ : ∃ I0 : Nat → List Reg → Prop, I0 = (fun i l' => ∃ S : Lay, S.a = a ∧ S.d = d ∧ S.n = n ∧ l' = frame L [(Str.ofString "sorter", .ref a), (Str.ofString "needs", .ref T.a)] :: tsI a d :: tsD w.params d (.ref n) .none (.int 0 t3) (.int 0 t4) :: n2i S i :: many i (ni S (fun _ => 0)) :: many i (sl S (fun _ => [])) :: outer T :: sls T needs :: l) := ⟨_, rfl⟩
  refine for_itr (itr_range hh) I0
    H5 (by rw [hI0]; exact ⟨_, rfl, rfl, rfl, rfl⟩) (fun _ _ _ _ _ => trivial) ?_ ?_
  · rintro i v l₁ s₁ hi ⟨tk, rfl⟩ hI H6
    rw [hI0] at hI
    obtain ⟨S, rfl, rfl, rfl, rfl⟩ := hI
    rw [Int.zero_add]
    (with_reducible refine wpAny_assign_Name ?_); dsimp only; (with_reducible show wpAny _ _ (storeName _ _ _) _ _ _); refine st_l (by with_reducible assumption) (by with_reducible exact rep_1) ?_ (by rfl) (by rfl); intro _ _
    refine posts_named fun Q0 E0 hQ0 hE0 => ?_
    (with_reducible refine wpAny_execs_cons ?_); (with_reducible show wpAny _ _ (exec (Stmt.Expr _ _) _) _ _ _); refine wpAny_Expr_any ?_; dsimp only; (with_reducible show wpAny _ _ (eval (Expr.Call (Expr.Attribute _ _ _) _ _ _) _) _ _ _); refine MethodCall_ ?_; (with_reducible show wpAny _ _ (eval (Expr.Name _ _) (envOf _ _ _ _ _)) _ _ _); refine nm_l (by with_reducible assumption) (by with_reducible exact mem_1) (by rfl) ?_ (by rfl) (by rfl) (by decide)
    refine gm_ts (f := 80) (by assumption) (by assumption) (by with_reducible exact mem_2) (by with_reducible exact mem_3) (by k_is) (by k_is) (by k_is) (fun _ _ _ _ _ => rfl) ?_
    (with_reducible show wpAny _ _ (callWith _ (Value.ref _) _ (backTo _ (starEach (_ :: _) _)) _) _ _ _); refine cw_fn (by with_reducible assumption) (by k_is) ?_ (by rfl) (by rfl) (by rfl); dsimp only; (with_reducible show wpAny _ _ (spliced (backTo _ (starEach (_ :: _) _))) _ _ _); refine wpAny_items_cons ?_; (with_reducible show wpAny _ _ (eval (Expr.Name _ _) (envOf _ _ _ _ _)) _ _ _); refine nm_l (by with_reducible assumption) (by with_reducible exact mem_1) (by rfl) ?_ (by rfl) (by rfl) (by decide); (with_reducible show wpAny _ _ (spliced (backTo _ (starEach [] _))) _ _ _); refine wpAny_items_nil ?_; (with_reducible show Frag.In _ _ ∧ wpAny _ _ _ _ _ _); refine ⟨St.kin (by with_reducible assumption) (by with_reducible assumption), ?_⟩
    refine wpAny_call (add_new (n := i) (np := fun _ => 0) (succ := fun _ => []) (l := riter it 0 6 (i + 1) :: frame L _ :: outer T :: sls T needs :: l) (St.perm (by with_reducible assumption) (by exact permP_perm [2, 2, 2, 2, 2] _)) G hi rfl rfl (by show A.depth + 1 < 880; (first | lia | omega)) hh ?_)
    intro S' s7 e1 e2 e3 H7
    dsimp only
    (with_reducible refine wpAny_execs_nil ?_)
    subst hQ0
    refine ⟨_, by rw [hI0]; exact ⟨S', e1, e2, e3, rfl⟩, St.perm (St.reframe (L := L) (fs' := [(Str.ofString "sorter", .ref S.a), (Str.ofString "needs", .ref T.a)]) H7 (by with_reducible exact rep_6) (by exact Framed.of rfl)) ?_⟩
    unfold tsi tsd
    rw [e1, e2, e3]
    exact permP_perm [5, 5] _
  · rintro l₁ s₁ hI H6
    rw [hI0] at hI
    obtain ⟨S, rfl, rfl, rfl, rfl⟩ := hI
    dsimp only
    (with_reducible refine wpAny_execs_cons ?_); (with_reducible show wpAny _ _ (exec (Stmt.For _ _ _ _ _) _) _ _ _); refine wpAny_For ?_; (with_reducible show wpAny _ _ (eval (Expr.Call (Expr.Name _ _) _ _ _) _) _ _ _); refine wpAny_Call_ofName ?_; (with_reducible show wpAny _ _ (eval (Expr.Name _ _) (envOf _ _ _ _ _)) _ _ _); refine nm_b (v := .type "range") (by with_reducible assumption) (by with_reducible assumption) (by k_is) (by rfl) ?_ (by decide) (by rfl) (by rfl) (by decide); (with_reducible show wpAny _ _ (callWith _ (Value.type _) _ (backTo _ (starEach (_ :: _) _)) _) _ _ _); refine cw_mach ?_ (by rfl) (by rfl) (by rfl) (by rfl); (with_reducible show wpAny _ _ (spliced (backTo _ (starEach (_ :: _) _))) _ _ _); refine wpAny_items_cons ?_; (with_reducible show wpAny _ _ (eval (Expr.Constant (Const.int _) _ _) _) _ _ _); refine const_int (by with_reducible assumption) ?_; intro _ _ _; (with_reducible show wpAny _ _ (spliced (backTo _ (starEach [] _))) _ _ _); refine wpAny_items_nil ?_; (with_reducible show wpAny _ _ (call (Value.type "range") ([] ++ [Value.int _ _])) _ _ _); refine call_rng1 (by with_reducible assumption) ?_; intro _ _ _
    refine iter_rng (n := 6) (by with_reducible assumption) (by with_reducible exact mem_0) (by (first | lia | omega)) (by (first | lia | omega)) (.inl rfl) ?_
    intro it s7 H7
    have H7 : St B s7 (riter it 0 6 0 :: frame L [(Str.ofString "sorter", .ref S.a), (Str.ofString "needs", .ref T.a)] :: tsi S :: tsd w S .none (.int 0 t3) (.int 0 t4) :: n2i S 6 :: nis S (fun _ => 0) :: sls S (fun _ => []) :: outer T :: sls T needs :: l) :=
      St.sub (St.perm H7 (l' := rng _ _ _ :: riter it 0 6 0 :: frame L [(Str.ofString "sorter", .ref S.a), (Str.ofString "needs", .ref T.a)] :: tsi S :: tsd w S .none (.int 0 t3) (.int 0 t4) :: n2i S 6 :: nis S (fun _ => 0) :: sls S (fun _ => []) :: outer T :: sls T needs :: l) (by exact permP_perm [1] _)) (by exact sub_of [false] rfl)
    obtain ⟨I1, hI1⟩ : ∃ I1 : Nat → List Reg → Prop, I1 = (fun i l' => ∃ st : Edges, st = ((List.range 6).take i).foldl (addRow needs) built0 ∧ l' = frame L [(Str.ofString "sorter", .ref S.a), (Str.ofString "needs", .ref T.a)] :: tsi S :: tsd w S .none (.int 0 t3) (.int 0 t4) :: n2i S 6 :: nis S st.1 :: sls S st.2 :: outer T :: sls T needs :: l) := ⟨_, rfl⟩
    refine for_itr (itr_range hh) I1
      H7 (by rw [hI1]; exact ⟨_, rfl, rfl⟩) (fun _ _ _ _ _ => trivial) ?_ ?_
    · rintro i v l₁ s₁ hi ⟨tk, rfl⟩ hI H8
      rw [hI1] at hI
      obtain ⟨st, hst, rfl⟩ := hI
      rw [Int.zero_add]
      have hb : ∀ j, (st.2 j).length ≤ 14 * i := by
        intro j
        have := addRows_len hz ((List.range 6).take i) built0 j
        rw [← hst, List.length_take] at this
        have e : (built0.2 j).length = 0 := rfl
        (first | lia | omega)
      have hnext := foldl_take_succ (addRow needs) built0 (List.range 6) i (by simpa using hi)
      rw [← hst, List.getElem_range] at hnext
      clear hst H7 H6 H5 H4 H1
      (with_reducible refine wpAny_assign_Name ?_); dsimp only; (with_reducible show wpAny _ _ (storeName _ _ _) _ _ _); refine st_l (by with_reducible assumption) (by with_reducible exact rep_1) ?_ (by rfl) (by rfl); intro _ _
      refine posts_named fun Q1 E1 hQ1 hE1 => ?_
      (with_reducible refine wpAny_execs_cons ?_); (with_reducible show wpAny _ _ (exec (Stmt.For _ _ _ _ _) _) _ _ _); refine wpAny_For ?_; (with_reducible refine Subscript_ ?_); (with_reducible show wpAny _ _ (eval (Expr.Name _ _) (envOf _ _ _ _ _)) _ _ _); refine nm_l (by with_reducible assumption) (by with_reducible exact mem_1) (by rfl) ?_ (by rfl) (by rfl) (by decide); (with_reducible show wpAny _ _ (eval (Expr.Name _ _) (envOf _ _ _ _ _)) _ _ _); refine nm_l (by with_reducible assumption) (by with_reducible exact mem_1) (by rfl) ?_ (by rfl) (by rfl) (by decide); (with_reducible show wpAny _ _ (subscriptTail _ _ (Value.ref (Lay.a _)) (Value.int _ _)) _ _ _); refine sub_outer (by with_reducible assumption) (by with_reducible exact mem_7) (by with_reducible exact Int.natCast_nonneg _) (by (first | lia | omega)) ?_ (by with_unfolding_all rfl); intro _ _; (with_reducible show wpAny _ _ (pyIter (Value.ref (Lay.s _ _))) _ _ _); refine iter_sl (by with_reducible assumption) (by with_reducible exact mem_8) (by (first | lia | omega)) ?_; intro _ _ _
      rename_i it2 s9 H9
      have H9 : St B s9 (liter it2 (T.s (i : Int).toNat) 0 :: riter it 0 6 (i + 1) :: frame L [(Str.ofString "thing", .int i tk), (Str.ofString "sorter", .ref S.a), (Str.ofString "needs", .ref T.a)] :: tsi S :: tsd w S .none (.int 0 t3) (.int 0 t4) :: n2i S 6 :: nis S st.1 :: sls S st.2 :: outer T :: sls T needs :: l) := H9
      rw [Int.toNat_natCast] at H9
      obtain ⟨I2, hI2⟩ : ∃ I2 : Nat → List Reg → Prop, I2 = (fun j l' => ∃ s2 : Edges, s2 = ((needs i).take j).foldl (fun st y => addE st i y) st ∧ l' = riter it 0 6 (i + 1) :: frame L [(Str.ofString "thing", .int i tk), (Str.ofString "sorter", .ref S.a), (Str.ofString "needs", .ref T.a)] :: tsi S :: tsd w S .none (.int 0 t3) (.int 0 t4) :: n2i S 6 :: nis S s2.1 :: sls S s2.2 :: outer T :: sls T needs :: l) := ⟨_, rfl⟩
      refine for_itr (itr_sl (n := 6) (S := T) (succ := needs) hh hi) I2
        H9 (by rw [hI2]; exact ⟨_, rfl, rfl⟩) (fun j l₁ s₁ e _ => by rw [hI2] at e; obtain ⟨_, _, rfl⟩ := e; with_reducible exact mem_8) ?_ ?_
      · rintro j v l₁ s₁ hj ⟨tk2, hv⟩ hI H10
        rw [hI2] at hI
        obtain ⟨s2, hs2, rfl⟩ := hI
        rw [List.getElem?_eq_getElem hj, Option.map_some, Option.some.injEq] at hv
        subst hv
        obtain ⟨k0, k6⟩ := hn i hi _ (List.getElem_mem hj)
        have hb2 : ∀ k, (s2.2 k).length ≤ 100 := by
          intro k
          have h1 := addEs_len ((needs i).take j) i st k
          rw [← hs2, List.length_take] at h1
          have h2 := hb k
          have h3 := hz i
          (first | lia | omega)
        have hnext2 := foldl_take_succ (fun st y => addE st i y) st (needs i) j hj
        rw [← hs2] at hnext2
        clear hs2 hnext H9
        generalize (needs i)[j] = y at *
        (with_reducible refine wpAny_assign_Name ?_); dsimp only; (with_reducible show wpAny _ _ (storeName _ _ _) _ _ _); refine st_l (by with_reducible assumption) (by with_reducible exact rep_2) ?_ (by rfl) (by rfl); intro _ _
        refine posts_named fun Q2 E2 hQ2 hE2 => ?_
        (with_reducible refine wpAny_execs_cons ?_); (with_reducible show wpAny _ _ (exec (Stmt.Expr _ _) _) _ _ _); refine wpAny_Expr_any ?_; dsimp only; (with_reducible show wpAny _ _ (eval (Expr.Call (Expr.Attribute _ _ _) _ _ _) _) _ _ _); refine MethodCall_ ?_; (with_reducible show wpAny _ _ (eval (Expr.Name _ _) (envOf _ _ _ _ _)) _ _ _); refine nm_l (by with_reducible assumption) (by with_reducible exact mem_2) (by rfl) ?_ (by rfl) (by rfl) (by decide)
        refine gm_ts (f := 80) (by assumption) (by assumption) (by with_reducible exact mem_3) (by with_reducible exact mem_4) (by k_is) (by k_is) (by k_is) (fun _ _ _ _ _ => rfl) ?_
        (with_reducible show wpAny _ _ (callWith _ (Value.ref _) _ (backTo _ (starEach (_ :: _) _)) _) _ _ _); refine cw_fn (by with_reducible assumption) (by k_is) ?_ (by rfl) (by rfl) (by rfl); dsimp only; (with_reducible show wpAny _ _ (spliced (backTo _ (starEach (_ :: _) _))) _ _ _); refine wpAny_items_cons ?_; (with_reducible show wpAny _ _ (eval (Expr.Name _ _) (envOf _ _ _ _ _)) _ _ _); refine nm_l (by with_reducible assumption) (by with_reducible exact mem_2) (by rfl) ?_ (by rfl) (by rfl) (by decide); (with_reducible show wpAny _ _ (spliced (backTo _ (starEach (_ :: _) _))) _ _ _); refine wpAny_items_cons ?_; (with_reducible show wpAny _ _ (eval (Expr.Name _ _) (envOf _ _ _ _ _)) _ _ _); refine nm_l (by with_reducible assumption) (by with_reducible exact mem_2) (by rfl) ?_ (by rfl) (by rfl) (by decide); (with_reducible show wpAny _ _ (spliced (backTo _ (starEach [] _))) _ _ _); refine wpAny_items_nil ?_; (with_reducible show Frag.In _ _ ∧ wpAny _ _ _ _ _ _); refine ⟨St.kin (by with_reducible assumption) (by with_reducible assumption), ?_⟩
        refine wpAny_call (add_edge (x := i) (y := y) (np := s2.1) (succ := s2.2) (l := liter it2 (T.s i) (j + 1) :: riter it 0 6 (i + 1) :: frame L _ :: outer T :: sls T needs :: l) (St.perm (by with_reducible assumption) (by exact permP_perm [3, 3, 3, 3, 3] _)) G (by with_reducible exact Int.natCast_nonneg _) (by (first | lia | omega)) k0 k6 hb2 (by show A.depth + 1 < 880; (first | lia | omega)) hh ?_)
        intro s11 H11
        dsimp only
        (with_reducible refine wpAny_execs_nil ?_)
        subst hQ2
        refine ⟨_, by rw [hI2]; exact ⟨_, hnext2.symm, rfl⟩, St.perm (St.reframe (L := L) (fs' := [(Str.ofString "thing", .int i tk), (Str.ofString "sorter", .ref S.a), (Str.ofString "needs", .ref T.a)]) H11 (by with_reducible exact rep_7) (by exact Framed.of rfl)) ?_⟩
        unfold addE
        exact permP_perm [5, 5, 5] _
      · rintro l₁ s₁ hI H10
        rw [hI2] at hI
        obtain ⟨s2, hs2, rfl⟩ := hI
        dsimp only
        (with_reducible refine wpAny_execs_nil ?_)
        rw [List.take_length] at hs2
        subst hQ1
        exact ⟨_, by rw [hI1]; exact ⟨s2, by rw [hnext, hs2]; rfl, rfl⟩, St.perm (St.reframe (L := L) (fs' := [(Str.ofString "sorter", .ref S.a), (Str.ofString "needs", .ref T.a)]) H10 (by with_reducible exact rep_1) (by exact Framed.of rfl)) (by exact permP_perm [] _)⟩
    · rintro l₁ s₁ hI H8
      rw [hI1] at hI
      obtain ⟨st, hst, rfl⟩ := hI
      dsimp only
      (with_reducible refine wpAny_execs_cons ?_); (with_reducible refine wpAny_Return_some ?_); dsimp only; (with_reducible show wpAny _ _ (eval (Expr.Name _ _) (envOf _ _ _ _ _)) _ _ _); refine nm_l (by with_reducible assumption) (by with_reducible exact mem_0) (by rfl) ?_ (by rfl) (by rfl) (by decide)
      rw [List.take_of_length_le (by simp)] at hst
      have hst : st = built needs := hst
      subst hst
      subst hQF
      exact hq S t3 t4 _ (St.sub (by with_reducible assumption) (by exact sub_of [false] rfl))
end
end
section
open PySem PySem.W PyProof.Rows PySem.Calls PySem.Spec
noncomputable def deepF (needs : Nat → List Int) : Nat → Int → List Int → Int
  | 0, _, _ => 0
  | f + 1, x, seen => if x ∈ seen then 0 else
      if 0 ∈ (needs x.toNat).map (fun y => deepF needs f y (seen ++ [x])) then 0 else 1 + ((needs x.toNat).map (fun y => deepF needs f y (seen ++ [x])) ++ [0]).foldl max 0
theorem foldl_max_ge (xs : List Int) : ∀ z : Int, z ≤ xs.foldl max z ∧ (∀ a ∈ xs, a ≤ xs.foldl max z) ∧ (xs.foldl max z = z ∨ xs.foldl max z ∈ xs) := by
  induction xs with
  | nil => intro z; exact ⟨Int.le_refl _, (fun a h => nomatch h), .inl rfl⟩
  | cons x xs ih =>
    intro z
    obtain ⟨h1, h2, h3⟩ := ih (max z x)
    rw [List.foldl_cons]
    refine ⟨by (first | lia | omega), fun a ha => ?_, ?_⟩
    · rcases List.mem_cons.mp ha with rfl | ha
      · (first | lia | omega)
      · exact h2 a ha
    · rcases h3 with h | h
      · by_cases q : z ≤ x
        · right; rw [h, Int.max_eq_right q]; exact .head _
        · left; rw [h, Int.max_eq_left (by (first | lia | omega))]
      · exact .inr (.tail _ h)
theorem foldl_max_of {xs : List Int} {M : Int} (h : M ∈ xs) (h' : ∀ a ∈ xs, a ≤ M) (h0 : 0 ≤ M) : xs.foldl max 0 = M := by
  obtain ⟨h1, h2, h3⟩ := foldl_max_ge xs 0
  have a := h2 M h
  rcases h3 with q | q
  · (first | lia | omega)
  · have b := h' _ q; (first | lia | omega)
section
variable {prog : Program} {w : World} {B : Bs} {T : Lay} {needs : Nat → List Int}
set_option tactic.hygienic true in
theorem law_deep_ok (G : Gd (hd.heap_39 w.params) B.g) (hn : ∀ j, j < 6 → ∀ x ∈ needs j, 0 ≤ x ∧ x < 6) (hz : ∀ k, (needs k).length ≤ 14) : ∀ (f : Nat) (x : Int) (seen : List Int) (r : Addr) (t : Nat) (A : Around) (s : Shared) (l : List Reg) (R : Result → Shared → Prop),
    7 ≤ f + seen.length → seen.Nodup → (∀ y ∈ seen, 0 ≤ y ∧ y < 6) → 0 ≤ x → x < 6 → A.depth + 10 * f < 870 → A.handled = none →
    St B s (outer T :: sls T needs :: ilst r seen :: l) → (∀ t' s', St B s' (outer T :: sls T needs :: ilst r seen :: l) → R (.ok (.ret (.int (deepF needs f x seen) t'))) s') →
    codeAny (model prog w) A (.call (.ref 146) ⟨[.ref T.a, .int x t, .ref r], []⟩) R s := by
  intro f
  induction f with
  | zero =>
    intro x seen r t A s l R hf hnd hs
    have := nodup_len 6 seen hnd hs
    (first | lia | omega)
  | succ f ih =>
    intro x seen r t A s l R hf hnd hs h0 h6 hA hh H hq
    refine sl_callC (binds := [(Str.ofString "needs", .ref T.a), (Str.ofString "thing", .int x t), (Str.ofString "seen", .ref r)]) H G (by k_is) (by k_is) (by show A.depth < 1000; (first | lia | omega)) rfl (by (intro n; repeat (first | exact List.forall_mem_nil _ | refine List.forall_mem_cons.mpr ⟨by first | exact .inl rfl | exact .inr ⟨rfl, rfl⟩, ?_⟩))) (by (intro L; repeat (first | exact trivial | refine ⟨rfl, ?_⟩)))
      (cs := fun L => [cel3 L (some (.ref r)), cel2 L (some (.int x t)), cel1 L (some (.ref T.a))]) (fun L => rfl) (fs := fun _ => []) (fun L x v h => by cases h) (fun L s1 H1 => ?_) (by rfl) (by rfl) (by rfl)
    dsimp only [List.cons_append, List.nil_append] at H1
    (with_reducible refine wpAny_execs_cons ?_); (with_reducible refine wpAny_If ?_); (with_reducible refine wpAny_isTrue_Compare1 ?_); (with_reducible show wpAny _ _ (eval (Expr.Name _ _) (envOfC _ _ _ _ _)) _ _ _); refine nmC_c (by with_reducible assumption) (by rfl) (by with_reducible exact mem_2) ?_ (by rfl) (by rfl) (by decide); (with_reducible show wpAny _ _ (eval (Expr.Name _ _) (envOfC _ _ _ _ _)) _ _ _); refine nmC_c (by with_reducible assumption) (by rfl) (by with_reducible exact mem_1) ?_ (by rfl) (by rfl) (by decide); (with_reducible show wpAny _ _ (compareOp CmpOp.In (Value.int _ _) (Value.ref _)) _ _ _); refine in_ilst (by with_reducible assumption) (by with_reducible exact mem_6) ?_; intro _ _; (with_reducible refine wpAny_truthy_bool ?_)
    refine b_split (fun hb => ?_) (fun hb => ?_)
    · have hb : x ∈ seen := by simpa using hb
      (with_reducible refine wpAny_execs_cons ?_); (with_reducible refine wpAny_Return_some ?_); dsimp only; (with_reducible show wpAny _ _ (eval (Expr.Constant (Const.int _) _ _) _) _ _ _); refine const_int (by with_reducible assumption) ?_; intro _ _ _
      have e : deepF needs (f + 1) x seen = 0 := by unfold deepF; rw [if_pos hb]
      have hq := hq
      rw [e] at hq
      exact hq _ _ (St.sub (by with_reducible assumption) (by exact sub_of [false, false, false, false] rfl))
    · have hb : x ∉ seen := by simpa using hb
      (with_reducible refine wpAny_execs_nil ?_); dsimp only; (with_reducible refine wpAny_execs_cons ?_)
      refine comp_assign ?_ (by rfl) (by rfl) (by rfl) (by decide) (by intro _; rfl)
      (with_reducible refine Subscript_ ?_); dsimp only; (with_reducible show wpAny _ _ (eval (Expr.Name _ _) (envOfC _ _ _ _ _)) _ _ _); refine nmC_c (by with_reducible assumption) (by rfl) (by with_reducible exact mem_3) ?_ (by rfl) (by rfl) (by decide); (with_reducible show wpAny _ _ (eval (Expr.Name _ _) (envOfC _ _ _ _ _)) _ _ _); refine nmC_c (by with_reducible assumption) (by rfl) (by with_reducible exact mem_2) ?_ (by rfl) (by rfl) (by decide); (with_reducible show wpAny _ _ (subscriptTail _ _ (Value.ref (Lay.a _)) (Value.int _ _)) _ _ _); refine sub_outer (by with_reducible assumption) (by with_reducible exact mem_4) (by with_reducible assumption) (by with_reducible assumption) ?_ (by with_unfolding_all rfl); intro _ _; (with_reducible show wpAny _ _ (pyIter (Value.ref (Lay.s _ _))) _ _ _); refine iter_sl (by with_reducible assumption) (by with_reducible exact mem_5) (by (first | lia | omega)) ?_; intro _ _ _
      rename_i it s5 H5
      refine comp_done (itr_sl (n := 6) (j := x.toNat) (S := T) (succ := needs) hh (by (first | lia | omega))) (fun i l₁ vs => l₁ = cel3 L (some (.ref r)) :: cel2 L (some (.int x t)) :: cel1 L (some (.ref T.a)) :: frame L [] :: outer T :: sls T needs :: ilst r seen :: l ∧ IntsAre vs (((needs x.toNat).take i).map fun y => deepF needs f y (seen ++ [x])))
        (St.perm (by with_reducible assumption) (by exact permP_perm [0, 1, 1, 1] _)) ⟨rfl, .nil⟩ ?_ ?_ ?_ ?_ (by decide) (by rfl) (by rfl)
      · rintro i l₁ vs ⟨rfl, _⟩ C D₀ fs
        with_reducible exact mem_7
      · rintro i l₁ vs ⟨rfl, hv⟩
        have := hv.length
        rw [List.length_map, List.length_take] at this
        have := hz x.toNat
        (first | lia | omega)
      · rintro C D₀ i v l₁ vs s₁ hi ⟨tk, hv⟩ ⟨rfl, hvs⟩ H6
        rw [List.getElem?_eq_getElem hi, Option.map_some, Option.some.injEq] at hv
        subst hv
        obtain ⟨k0, k6⟩ := hn _ (by (first | lia | omega)) _ (List.getElem_mem hi)
        have hnext : ((needs x.toNat).take (i + 1)).map (fun y => deepF needs f y (seen ++ [x])) = ((needs x.toNat).take i).map (fun y => deepF needs f y (seen ++ [x])) ++ [deepF needs f (needs x.toNat)[i] (seen ++ [x])] := by
          rw [List.take_succ_eq_append_getElem hi, List.map_append]; rfl
        generalize (needs x.toNat)[i] = y at *
        refine wpAny_tests_nil ?_
        rw [if_pos rfl]
        have hsl : seen.length ≤ 6 := nodup_len 6 seen hnd hs
        (with_reducible show wpAny _ _ (eval (Expr.Call (Expr.Name _ _) _ _ _) _) _ _ _); refine wpAny_Call_ofName ?_; (with_reducible show wpAny _ _ (eval (Expr.Name _ _) (compEnvC _ _ _ _)) _ _ _); refine nmK_g (by with_reducible assumption) (by with_reducible assumption) (by k_is) ?_ (by rfl) (by rfl) (by rfl) (by decide); (with_reducible show wpAny _ _ (callWith _ (Value.ref _) _ (backTo _ (starEach (_ :: _) _)) _) _ _ _); refine cw_fn (by with_reducible assumption) (by k_is) ?_ (by rfl) (by rfl) (by rfl); (with_reducible show wpAny _ _ (spliced (backTo _ (starEach (_ :: _) _))) _ _ _); refine wpAny_items_cons ?_; (with_reducible show wpAny _ _ (eval (Expr.Name _ _) (compEnvC _ _ _ _)) _ _ _); refine nmK_c (by with_reducible assumption) (by rfl) (by with_reducible exact mem_5) ?_ (by rfl) (by rfl) (by decide); (with_reducible show wpAny _ _ (spliced (backTo _ (starEach (_ :: _) _))) _ _ _); refine wpAny_items_cons ?_; (with_reducible show wpAny _ _ (eval (Expr.Name _ _) (compEnvC _ _ _ _)) _ _ _); refine nmK_l (by with_reducible assumption) (by with_reducible exact mem_0) (by rfl) ?_ (by rfl) (by rfl) (by decide); (with_reducible show wpAny _ _ (spliced (backTo _ (starEach (_ :: _) _))) _ _ _); refine wpAny_items_cons ?_; (with_reducible refine wpAny_BinOp ?_); (with_reducible show wpAny _ _ (eval (Expr.Name _ _) (compEnvC _ _ _ _)) _ _ _); refine nmK_c (by with_reducible assumption) (by rfl) (by with_reducible exact mem_3) ?_ (by rfl) (by rfl) (by decide); (with_reducible show wpAny _ _ (eval (Expr.List _ _) _) _ _ _); refine List_ ?_; (with_reducible show wpAny _ _ (spliced (backTo _ (starEach (_ :: _) _))) _ _ _); refine wpAny_items_cons ?_; (with_reducible show wpAny _ _ (eval (Expr.Name _ _) (compEnvC _ _ _ _)) _ _ _); refine nmK_c (by with_reducible assumption) (by rfl) (by with_reducible exact mem_4) ?_ (by rfl) (by rfl) (by decide); (with_reducible show wpAny _ _ (spliced (backTo _ (starEach [] _))) _ _ _); refine wpAny_items_nil ?_; (with_reducible show wpAny _ _ (newList [Value.int _ _]) _ _ _); refine newlist_ints (by with_reducible assumption) (.cons _ _ .nil) (by (simp_all; done)) ?_; intro _ _ _; (with_reducible show wpAny _ _ (binaryOp Operator.Add (Value.ref _) (Value.ref _)) _ _ _); refine add_ilst (by with_reducible assumption) (by (refine List.mem_cons_of_mem _ ?_; with_reducible exact mem_9)) (by with_reducible exact mem_0) (by (first | lia | omega)) (by (simp_all; done)) ?_; intro _ _ _; (with_reducible show wpAny _ _ (spliced (backTo _ (starEach [] _))) _ _ _); refine wpAny_items_nil ?_; (with_reducible show Frag.In _ _ ∧ wpAny _ _ _ _ _ _); refine ⟨St.kin (by with_reducible assumption) (by with_reducible assumption), ?_⟩
        rename_i q s8 H8
        refine wpAny_call (ih y (seen ++ [x]) q tk _ _ (ilst _ [x] :: frame C [(Str.ofString "other", .int y tk)] :: vlst D₀ vs :: liter it (T.s x.toNat) (i + 1) :: cel3 L (some (.ref r)) :: cel2 L (some (.int x t)) :: cel1 L (some (.ref T.a)) :: frame L [] :: ilst r seen :: l) _ (by simp; (first | lia | omega)) ?_ ?_ k0 k6 (by show A.depth + 1 + 10 * f < 870; (first | lia | omega)) hh (St.perm H8 (by exact permP_perm [9, 9] _)) ?_)
        · rw [List.nodup_append]
          exact ⟨hnd, by simp, fun a ha b hb' => by rw [List.mem_singleton.mp hb']; exact fun e => hb (e ▸ ha)⟩
        · intro z hz
          rcases List.mem_append.mp hz with h | h
          · exact hs z h
          · rw [List.mem_singleton.mp h]; exact ⟨h0, h6⟩
        · intro t' s' H9
          dsimp only
          refine ⟨_, ⟨rfl, by rw [hnext]; exact ints_append hvs (.cons _ _ .nil)⟩, St.sub (St.perm H9 (l' := ilst _ _ :: ilst _ _ :: frame C [(Str.ofString "other", .int y tk)] :: vlst D₀ vs :: liter it (T.s x.toNat) (i + 1) :: cel3 L (some (.ref r)) :: cel2 L (some (.int x t)) :: cel1 L (some (.ref T.a)) :: frame L [] :: outer T :: sls T needs :: ilst r seen :: l) (by exact permP_perm [2, 2, 2, 2, 2, 2, 2, 2, 2] _)) (by exact sub_of [false, false] rfl)⟩
      · intro D₀ C l₁ vs s₁ ⟨e, hvs⟩ H6
        subst e
        have H7 := vlst_ints H6 hvs
        have hlen : ((needs x.toNat).map fun y => deepF needs f y (seen ++ [x])).length ≤ 14 := by rw [List.length_map]; exact hz _
        have hd : deepF needs (f + 1) x seen = if 0 ∈ (needs x.toNat).map (fun y => deepF needs f y (seen ++ [x])) then 0 else 1 + ((needs x.toNat).map (fun y => deepF needs f y (seen ++ [x])) ++ [0]).foldl max 0 := by
          rw [deepF]; rw [if_neg hb]
        rw [List.take_length] at H7
        revert hd H7 hlen
        generalize (needs x.toNat).map (fun y => deepF needs f y (seen ++ [x])) = rows
        intro H7 hlen hd
        clear H6 hvs H5
        (with_reducible refine wpAny_assign_Name ?_); (with_reducible show wpAny _ _ (storeName (envOfC _ _ _ _ _) _ _) _ _ _); refine stC_l (by with_reducible assumption) (by with_reducible exact rep_5) ?_ (by rfl) (by rfl); intro _ _
        refine ⟨_, St.perm (by with_reducible assumption) (l' := frame C [] :: ilst D₀ rows :: frame L _ :: cel3 L (some (.ref r)) :: cel2 L (some (.int x t)) :: cel1 L (some (.ref T.a)) :: outer T :: sls T needs :: ilst r seen :: l) (by exact permP_perm [1, 0, 3] _), fun s₃ H8 => ?_⟩
        clear H7
        (with_reducible refine wpAny_execs_cons ?_); (with_reducible refine wpAny_Return_some ?_); dsimp only; (with_reducible show wpAny _ _ (eval (Expr.IfExp _ _ _ _) _) _ _ _); refine wpAny_IfExp ?_; (with_reducible refine wpAny_isTrue_Compare1 ?_); (with_reducible show wpAny _ _ (eval (Expr.Constant (Const.int _) _ _) _) _ _ _); refine const_int (by with_reducible assumption) ?_; intro _ _ _; (with_reducible show wpAny _ _ (eval (Expr.Name _ _) (envOfC _ _ _ _ _)) _ _ _); refine nmC_l (by with_reducible assumption) (by with_reducible exact mem_1) (by rfl) ?_ (by rfl) (by rfl) (by decide); (with_reducible show wpAny _ _ (compareOp CmpOp.In (Value.int _ _) (Value.ref _)) _ _ _); refine in_ilst (by with_reducible assumption) (by with_reducible exact mem_0) ?_; intro _ _; (with_reducible refine wpAny_truthy_bool ?_)
        refine b_split (fun hb0 => ?_) (fun hb0 => ?_)
        · have hb0 : 0 ∈ rows := by simpa using hb0
          rw [if_pos hb0] at hd
          (with_reducible show wpAny _ _ (eval (Expr.Constant (Const.int _) _ _) _) _ _ _); refine const_int (by with_reducible assumption) ?_; intro _ _ _
          have hq := hq
          rw [hd] at hq
          exact hq _ _ (St.sub (St.perm (by with_reducible assumption) (l' := ilst D₀ rows :: frame L _ :: cel3 L (some (.ref r)) :: cel2 L (some (.int x t)) :: cel1 L (some (.ref T.a)) :: outer T :: sls T needs :: ilst r seen :: l) (by exact permP_perm [] _)) (by exact sub_of [false, false, false, false, false] rfl))
        · have hb0 : 0 ∉ rows := by simpa using hb0
          rw [if_neg hb0] at hd
          (with_reducible refine wpAny_BinOp ?_); (with_reducible show wpAny _ _ (eval (Expr.Constant (Const.int _) _ _) _) _ _ _); refine const_int (by with_reducible assumption) ?_; intro _ _ _; (with_reducible show wpAny _ _ (eval (Expr.Call (Expr.Name _ _) _ _ _) _) _ _ _); refine wpAny_Call_ofName ?_; (with_reducible show wpAny _ _ (eval (Expr.Name _ _) (envOfC _ _ _ _ _)) _ _ _); refine nmC_b (v := .builtin "max") (by with_reducible assumption) (by with_reducible assumption) (by k_is) (by rfl) ?_ (by decide) (by rfl) (by rfl) (by decide); (with_reducible show wpAny _ _ (callWith _ (Value.builtin _) _ (backTo _ (starEach (_ :: _) _)) _) _ _ _); refine cw_mach ?_ (by rfl) (by rfl) (by rfl) (by rfl); (with_reducible show wpAny _ _ (spliced (backTo _ (starEach (_ :: _) _))) _ _ _); refine wpAny_items_cons ?_; (with_reducible refine wpAny_BinOp ?_); (with_reducible show wpAny _ _ (eval (Expr.Name _ _) (envOfC _ _ _ _ _)) _ _ _); refine nmC_l (by with_reducible assumption) (by with_reducible exact mem_1) (by rfl) ?_ (by rfl) (by rfl) (by decide); (with_reducible show wpAny _ _ (eval (Expr.List _ _) _) _ _ _); refine List_ ?_; (with_reducible show wpAny _ _ (spliced (backTo _ (starEach (_ :: _) _))) _ _ _); refine wpAny_items_cons ?_; (with_reducible show wpAny _ _ (eval (Expr.Constant (Const.int _) _ _) _) _ _ _); refine const_int (by with_reducible assumption) ?_; intro _ _ _; (with_reducible show wpAny _ _ (spliced (backTo _ (starEach [] _))) _ _ _); refine wpAny_items_nil ?_; (with_reducible show wpAny _ _ (newList [Value.int _ _]) _ _ _); refine newlist_ints (by with_reducible assumption) (.cons _ _ .nil) (by (simp_all; done)) ?_; intro _ _ _; (with_reducible show wpAny _ _ (binaryOp Operator.Add (Value.ref _) (Value.ref _)) _ _ _); refine add_ilst (by with_reducible assumption) (by with_reducible exact mem_1) (by with_reducible exact mem_0) (by (first | lia | omega)) (by (simp_all; done)) ?_; intro _ _ _; (with_reducible show wpAny _ _ (spliced (backTo _ (starEach [] _))) _ _ _); refine wpAny_items_nil ?_
          rename_i q s9 H9
          refine max_ilst hh H9 (.head _) (by simp) fun M tM s10 H10 hM1 hM2 => ?_
          have e : (rows ++ [0]).foldl max 0 = M := foldl_max_of hM1 hM2 (hM2 0 (by simp))
          rw [e] at hd
          (with_reducible show wpAny _ _ (binaryOp .Add (Value.int _ _) (Value.int _ _)) _ _ _); refine bi_add (by with_reducible assumption) ?_; intro _ _ _
          have hq := hq
          rw [hd] at hq
          exact hq _ _ (St.sub (St.perm (by with_reducible assumption) (l' := ilst q _ :: ilst _ [0] :: ilst D₀ rows :: frame L _ :: cel3 L (some (.ref r)) :: cel2 L (some (.int x t)) :: cel1 L (some (.ref T.a)) :: outer T :: sls T needs :: ilst r seen :: l) (by exact permP_perm [] _)) (by exact sub_of [false, false, false, false, false, false, false] rfl))
end
end
section
open PySem PySem.W PyProof.Rows PySem.Calls PySem.Spec
noncomputable abbrev cfs (S : Lay) (dn se ik sk : Addr) : List (Str × Value) := [(Str.ofString "node2stacki", .ref dn), (Str.ofString "seen", .ref se), (Str.ofString "itstack", .ref ik), (Str.ofString "stack", .ref sk), (Str.ofString "n2i", .ref S.n), (Str.ofString "self", .ref S.a)]
noncomputable abbrev ctl (w : World) (S : Lay) (v2 v3 v4 : Value) (ep : Nat) (np : Nat → Int) (succ : Nat → List Int) (l : List Reg) : List Reg :=
  tsi S :: tsd w S v2 v3 v4 :: n2iE PySem.Challenge.pw_xc0002_01 w S 6 ep :: nis S np :: sls S succ :: l
noncomputable def entRegs (S : Lay) : List Ent → List Reg
  | [] => []
  | e :: es => mwr e.m e.it :: liter e.it (S.s e.x.toNat) e.p :: entRegs S es
section
variable (w : World) (B : Bs) (l : List Reg) (S : Lay) (v2 v3 v4 : Value) (np : Nat → Int) (succ : Nat → List Int) (L dn se ik sk it : Addr) (ep i : Nat)
noncomputable abbrev cyR (es : List Ent) (st : List Int) (its : List Value) (sn : Int → Bool) (n : Nat) (x : Int) (tx : Nat) (kvs : List (Int × Value)) : List Reg :=
  kiter it S.n 6 ep (i + 1) :: frame L ((Str.ofString "node", .int x tx) :: cfs S dn se ik sk) :: ilst sk st :: vlst ik its :: iset PySem.Challenge.pw_xc0002_01 w se sn n :: idict PySem.Challenge.pw_xc0002_01 w dn kvs :: ctl w S v2 v3 v4 ep np succ (entRegs S es ++ l)
inductive CyJ1 (m : Nat) (s' : Shared) : Prop
  | mk (es : List Ent) (fin : List Int) (sn : Int → Bool) (n : Nat) (x : Int) (tx : Nat) (kvs : List (Int × Value)) (hm : m = work succ sn + hold succ es) (D : DInv succ fin es (some x) sn n) (hx : 0 ≤ x ∧ x < 6) (he0 : es = [] → x = i ∧ sn x = false) (he1 : es ≠ [] → sn i = true)
    (hfin : ∀ j : Nat, j < i → (j : Int) ∈ fin) (hk : KvsOk kvs (nodesOf es).reverse) (H : St B s' (cyR w l S v2 v3 v4 np succ L dn se ik sk it ep i es (nodesOf es).reverse (List.map (fun e => Value.ref e.m) es).reverse sn n x tx kvs)) : CyJ1 m s'
inductive CyJ2 (ok : Nat → Prop) (s' : Shared) : Prop
  | mk (es : List Ent) (fin : List Int) (sn : Int → Bool) (n : Nat) (x : Int) (tx : Nat) (kvs : List (Int × Value)) (hm : ok (work succ sn + hold succ es)) (D : DInv succ fin es none sn n) (hi6 : sn i = true)
    (hfin : ∀ j : Nat, j < i → (j : Int) ∈ fin) (hk : KvsOk kvs (nodesOf es).reverse) (H : St B s' (cyR w l S v2 v3 v4 np succ L dn se ik sk it ep i es (nodesOf es).reverse (List.map (fun e => Value.ref e.m) es).reverse sn n x tx kvs)) : CyJ2 ok s'
end
theorem St.toV {B : Bs} {s : Shared} {l : List Reg} {r : Addr} (H : St B s (ilst r [] :: l)) : St B s (vlst r [] :: l) :=
  H.weak (fun ⟨o, ho, vs, n, e, hv⟩ => ⟨o, ho, n, by cases hv; exact e⟩) fun _ h => h
section
variable {w : World} {A : Around} {s : Shared} {B : Bs} {l : List Reg} {S : Lay} {R : Result → Shared → Prop} {v2 v3 v4 : Value} {np : Nat → Int} {succ : Nat → List Int} {outerE : List Env}
set_option tactic.hygienic true in
theorem find_cycle_ok (H : St B s (tsi S :: tsd w S v2 v3 v4 :: n2i S 6 :: nis S np :: sls S succ :: l)) (G : Gd (hd.heap_39 w.params) B.g)
    (hs : ∀ k, (succ k).length ≤ 10) (hsx : ∀ k, ∀ x ∈ succ k, 0 ≤ x ∧ x < 6) (hA : A.depth < 880) (hh : A.handled = none) (hF : A.frames = some outerE) (hFl : FrL outerE l)
    (hq1 : ∀ s', Acyc succ → St B s' (tsi S :: tsd w S v2 v3 v4 :: n2i S 6 :: nis S np :: sls S succ :: l) → R (.ok (.ret .none)) s')
    (hq2 : ∀ q ring s', IsRing succ ring → St B s' (ilst q ring :: tsi S :: tsd w S v2 v3 v4 :: n2i S 6 :: nis S np :: sls S succ :: l) → R (.ok (.ret (.ref q))) s') :
    codeAny (model PySem.Challenge.pw_xc0002_01 w) A (.call (.ref 120) ⟨[.ref S.a], []⟩) R s := by
  refine sl_call0 (binds := [(Str.ofString "self", .ref S.a)]) (fs := [(Str.ofString "self", .ref S.a)]) H G (by k_is) (by k_is) (Nat.lt_trans hA (by decide)) (BindsTo.of_eq rfl) (locs rfl) rfl (fun L s1 H1 => ?_) (by rfl) (by rfl) (by rfl) (by decide)
  refine post_named fun QF hQF => ?_
  (with_reducible refine wpAny_execs_cons ?_); (with_reducible show wpAny _ _ (exec (Stmt.Assign [Expr.Name _ _] _ _) _) _ _ _); refine wpAny_Assign_Name ?_; dsimp only; (with_reducible refine Attribute_any_ ?_); (with_reducible show wpAny _ _ (eval (Expr.Name _ _) (envOf _ _ _ _ _)) _ _ _); refine nm_l (by with_reducible assumption) (by with_reducible exact mem_0) (by rfl) ?_ (by rfl) (by rfl) (by decide); (with_reducible show wpAny _ _ (getAttr (Value.ref _) (Str.ofString "_node2info") _) _ _ _); refine ga_n2i (by with_reducible assumption) (by with_reducible assumption) (by with_reducible exact mem_1) (by with_reducible exact mem_2) rfl ?_; intro _ _; (with_reducible show wpAny _ _ (storeName _ _ _) _ _ _); refine st_l (by with_reducible assumption) (by with_reducible exact rep_0) ?_ (by rfl) (by rfl); intro _ _; (with_reducible refine wpAny_execs_cons ?_); (with_reducible show wpAny _ _ (exec (Stmt.Assign [Expr.Name _ _] _ _) _) _ _ _); refine wpAny_Assign_Name ?_; dsimp only; (with_reducible show wpAny _ _ (eval (Expr.List _ _) _) _ _ _); refine List_ ?_; (with_reducible show wpAny _ _ (spliced (backTo _ (starEach [] _))) _ _ _); refine wpAny_items_nil ?_; (with_reducible show wpAny _ _ (newList []) _ _ _); refine newlist_ints (by with_reducible assumption) .nil (by (simp_all; done)) ?_; intro _ _ _; (with_reducible show wpAny _ _ (storeName _ _ _) _ _ _); refine st_l (by with_reducible assumption) (by with_reducible exact rep_1) ?_ (by rfl) (by rfl); intro _ _; (with_reducible refine wpAny_execs_cons ?_); (with_reducible show wpAny _ _ (exec (Stmt.Assign [Expr.Name _ _] _ _) _) _ _ _); refine wpAny_Assign_Name ?_; dsimp only; (with_reducible show wpAny _ _ (eval (Expr.List _ _) _) _ _ _); refine List_ ?_; (with_reducible show wpAny _ _ (spliced (backTo _ (starEach [] _))) _ _ _); refine wpAny_items_nil ?_; (with_reducible show wpAny _ _ (newList []) _ _ _); refine newlist_ints (by with_reducible assumption) .nil (by (simp_all; done)) ?_; intro _ _ _; (with_reducible show wpAny _ _ (storeName _ _ _) _ _ _); refine st_l (by with_reducible assumption) (by with_reducible exact rep_2) ?_ (by rfl) (by rfl); intro _ _; (with_reducible refine wpAny_execs_cons ?_); (with_reducible show wpAny _ _ (exec (Stmt.Assign [Expr.Name _ _] _ _) _) _ _ _); refine wpAny_Assign_Name ?_; dsimp only; (with_reducible show wpAny _ _ (eval (Expr.Call (Expr.Name _ _) _ _ _) _) _ _ _); refine wpAny_Call_ofName ?_; (with_reducible show wpAny _ _ (eval (Expr.Name _ _) (envOf _ _ _ _ _)) _ _ _); refine nm_b (v := .type "set") (by with_reducible assumption) (by with_reducible assumption) (by k_is) (by rfl) ?_ (by decide) (by rfl) (by rfl) (by decide); (with_reducible show wpAny _ _ (callWith _ (Value.type _) _ (backTo _ (starEach [] _)) _) _ _ _); refine cw_mach0 ?_ (by rfl) (by rfl); (with_reducible show wpAny _ _ (call (Value.type "set") ([] ++ [])) _ _ _); refine set0 (by with_reducible assumption) ?_; intro _ _ _; (with_reducible show wpAny _ _ (storeName _ _ _) _ _ _); refine st_l (by with_reducible assumption) (by with_reducible exact rep_3) ?_ (by rfl) (by rfl); intro _ _; (with_reducible refine wpAny_execs_cons ?_); (with_reducible show wpAny _ _ (exec (Stmt.Assign [Expr.Name _ _] _ _) _) _ _ _); refine wpAny_Assign_Name ?_; dsimp only
  refine dict0 (prog := PySem.Challenge.pw_xc0002_01) (w := w) G.lim (by with_reducible assumption) ?_
  intro dn s2 H2
  (with_reducible show wpAny _ _ (storeName _ _ _) _ _ _); refine st_l (by with_reducible assumption) (by with_reducible exact rep_4) ?_ (by rfl) (by rfl); intro _ _; (with_reducible refine wpAny_execs_cons ?_); (with_reducible show wpAny _ _ (exec (Stmt.For _ _ _ _ _) _) _ _ _); refine wpAny_For ?_; (with_reducible show wpAny _ _ (eval (Expr.Name _ _) (envOf _ _ _ _ _)) _ _ _); refine nm_l (by with_reducible assumption) (by with_reducible exact mem_4) (by rfl) ?_ (by rfl) (by rfl) (by decide)
  rename_i sk _ _ _ _ ik _ _ _ _ se _ _ _ _ s3 H3
  obtain ⟨ep, H4⟩ := St.toE (prog := PySem.Challenge.pw_xc0002_01) (w := w) (St.perm H3 (l' := n2i S 6 :: idict PySem.Challenge.pw_xc0002_01 w dn [] :: iset PySem.Challenge.pw_xc0002_01 w se (fun _ => false) 0 :: ilst sk [] :: frame L (cfs S dn se ik sk) :: tsi S :: tsd w S v2 v3 v4 :: nis S np :: sls S succ :: ilst ik [] :: l) (by exact permP_perm [7, 0, 0, 1, 1, 1, 1, 1, 1] _))
  have H5 : St B s3 (frame L (cfs S dn se ik sk) :: ilst sk [] :: vlst ik [] :: iset PySem.Challenge.pw_xc0002_01 w se (fun _ => false) 0 :: idict PySem.Challenge.pw_xc0002_01 w dn [] :: ctl w S v2 v3 v4 ep np succ l) :=
    St.perm (St.toV (St.perm H4 (l' := ilst ik [] :: n2iE PySem.Challenge.pw_xc0002_01 w S 6 ep :: idict PySem.Challenge.pw_xc0002_01 w dn [] :: iset PySem.Challenge.pw_xc0002_01 w se (fun _ => false) 0 :: ilst sk [] :: frame L (cfs S dn se ik sk) :: tsi S :: tsd w S v2 v3 v4 :: nis S np :: sls S succ :: l) (by exact permP_perm [9] _))) (by exact permP_perm [5, 4, 0, 2, 1, 1, 1] _)
  clear H4 H3 H2 H1
  refine iter_n2iE H5 (by with_reducible exact mem_7) ?_
  intro it s6 H6
  obtain ⟨I0, hI0⟩ : ∃ I0 : Nat → List Reg → Prop, I0 = (fun i l' => ∃ fin sn n, DInv succ fin [] none sn n ∧ (∀ j : Nat, j < i → (j : Int) ∈ fin) ∧ l' = frame L (cfs S dn se ik sk) :: ilst sk [] :: vlst ik [] :: iset PySem.Challenge.pw_xc0002_01 w se sn n :: idict PySem.Challenge.pw_xc0002_01 w dn [] :: ctl w S v2 v3 v4 ep np succ l) := ⟨_, rfl⟩
  refine for_itr (itr_keys (prog := PySem.Challenge.pw_xc0002_01) (w := w) (ep := ep) hh) I0 H6
    (by rw [hI0]; exact ⟨[], fun _ => false, 0, ⟨fun i h => absurd h (Nat.not_lt_zero _), .nil, fun x h => (nomatch h), fun k => ⟨fun h => (nomatch h), fun h => (nomatch h)⟩, rfl, trivial⟩, fun j h => absurd h (Nat.not_lt_zero _), rfl⟩)
    (fun i l₁ s₁ e _ => by rw [hI0] at e; obtain ⟨_, _, _, _, _, rfl⟩ := e; with_reducible exact mem_7) ?_ ?_
  · rintro i v l₁ s₁ hi ⟨tx, rfl⟩ hI H7
    rw [hI0] at hI
    obtain ⟨fin, sn, n, D, hfin, rfl⟩ := hI
    (with_reducible refine wpAny_assign_Name ?_); dsimp only; (with_reducible show wpAny _ _ (storeName _ _ _) _ _ _); refine st_l (by with_reducible assumption) (by with_reducible exact rep_1) ?_ (by rfl) (by rfl); intro _ _
    refine posts_named fun Q0 E0 hQ0 hE0 => ?_
    (with_reducible refine wpAny_execs_cons ?_); (with_reducible refine wpAny_If ?_); (with_reducible refine wpAny_isTrue_Compare1 ?_); (with_reducible show wpAny _ _ (eval (Expr.Name _ _) (envOf _ _ _ _ _)) _ _ _); refine nm_l (by with_reducible assumption) (by with_reducible exact mem_1) (by rfl) ?_ (by rfl) (by rfl) (by decide); (with_reducible show wpAny _ _ (eval (Expr.Name _ _) (envOf _ _ _ _ _)) _ _ _); refine nm_l (by with_reducible assumption) (by with_reducible exact mem_1) (by rfl) ?_ (by rfl) (by rfl) (by decide)
    refine in_iset (by with_reducible assumption) (by with_reducible exact mem_4) ?_
    intro s8 H8
    (with_reducible refine wpAny_truthy_bool ?_)
    refine b_split (fun hb => ?_) (fun hb => ?_)
    · (with_reducible refine wpAny_execs_cons ?_); (with_reducible refine wpAny_Continue ?_); dsimp only
      have hfin2 : ∀ j : Nat, j < i + 1 → (j : Int) ∈ fin := fun j hj => by
        by_cases q : j < i
        · exact hfin j q
        · have e : j = i := by (first | lia | omega)
          subst e
          simpa using (D.seen _).mp hb
      subst hQ0
      exact ⟨_, by rw [hI0]; exact ⟨fin, sn, n, D, hfin2, rfl⟩, St.perm (St.reframe (L := L) (fs' := (cfs S dn se ik sk)) H8 (by with_reducible exact rep_1) (by exact Framed.of rfl)) (by exact permP_perm [] _)⟩
    · (with_reducible refine wpAny_execs_nil ?_); dsimp only; (with_reducible refine wpAny_execs_cons ?_)
      refine wpAny_While ?_
      obtain ⟨J1, hJ1⟩ : ∃ J1 : Nat → Shared → Prop, J1 = CyJ1 w B l S v2 v3 v4 np succ L dn se ik sk it ep i := ⟨_, rfl⟩
      refine codeAny_whileLoop J1 ?_ (work succ sn + hold succ []) (by rw [hJ1]; exact ⟨[], fin, sn, n, i, tx, [], rfl, ⟨D.closed, D.nd, D.rng, D.seen, D.cnt, trivial⟩, ⟨by (first | lia | omega), by (first | lia | omega)⟩, fun _ => ⟨rfl, hb⟩, fun h => absurd rfl h, hfin, ⟨rfl, fun i hi => absurd hi (Nat.not_lt_zero _)⟩,
          St.perm H8 (l' := kiter it S.n 6 ep (i + 1) :: frame L ((Str.ofString "node", .int i tx) :: cfs S dn se ik sk) :: ilst sk [] :: vlst ik [] :: iset PySem.Challenge.pw_xc0002_01 w se sn n :: idict PySem.Challenge.pw_xc0002_01 w dn [] :: ctl w S v2 v3 v4 ep np succ l) (by exact permP_perm [] _)⟩)
      clear D hb hfin H8 H7
      rintro m s' hJ
      rw [hJ1] at hJ
      obtain ⟨es, fin, sn, n, x, tx, kvs, hm, D, hx, he0, he1, hfin, hk, H9⟩ := hJ
      (with_reducible show wpAny _ _ (isTrue _ _ _) _ _ _); refine wpAny_isTrue_value ?_; dsimp only; (with_reducible refine wpAny_Constant_bool ?_); (with_reducible refine wpAny_truthy_bool ?_); (with_reducible show (ite _ _ _ : Prop)); refine b_tt ?_ (by with_reducible rfl)
      refine posts_named fun Q1 E1 hQ1 hE1 => ?_
      obtain ⟨J2, hJ2⟩ : ∃ J2 : Shared → Prop, J2 = CyJ2 w B l S v2 v3 v4 np succ L dn se ik sk it ep i (fun q => q ≤ m) := ⟨_, rfl⟩
      refine execs_mid (J := J2) ?_ ?_
      · have hn6 : (nodesOf es ++ fin).length ≤ 6 := nodup_len 6 _ D.nd D.rng
        rw [List.length_append, List.length_map] at hn6
        have hcnt := D.cnt
        (with_reducible refine wpAny_If ?_); (with_reducible refine wpAny_isTrue_Compare1 ?_); (with_reducible show wpAny _ _ (eval (Expr.Name _ _) (envOf _ _ _ _ _)) _ _ _); refine nm_l (by with_reducible assumption) (by with_reducible exact mem_1) (by rfl) ?_ (by rfl) (by rfl) (by decide); (with_reducible show wpAny _ _ (eval (Expr.Name _ _) (envOf _ _ _ _ _)) _ _ _); refine nm_l (by with_reducible assumption) (by with_reducible exact mem_1) (by rfl) ?_ (by rfl) (by rfl) (by decide)
        refine in_iset (by with_reducible assumption) (by with_reducible exact mem_4) ?_
        intro s10 H10
        (with_reducible refine wpAny_truthy_bool ?_)
        refine b_split (fun hb => ?_) (fun hb => ?_)
        · (with_reducible refine wpAny_execs_cons ?_); (with_reducible refine wpAny_If ?_); (with_reducible refine wpAny_isTrue_Compare1 ?_); (with_reducible show wpAny _ _ (eval (Expr.Name _ _) (envOf _ _ _ _ _)) _ _ _); refine nm_l (by with_reducible assumption) (by with_reducible exact mem_1) (by rfl) ?_ (by rfl) (by rfl) (by decide); (with_reducible show wpAny _ _ (eval (Expr.Name _ _) (envOf _ _ _ _ _)) _ _ _); refine nm_l (by with_reducible assumption) (by with_reducible exact mem_1) (by rfl) ?_ (by rfl) (by rfl) (by decide)
          refine in_idict (prog := PySem.Challenge.pw_xc0002_01) (w := w) H10 (by with_reducible exact mem_5) ?_
          intro s11 H11
          (with_reducible refine wpAny_truthy_bool ?_)
          refine b_split (fun hb2 => ?_) (fun hb2 => ?_)
          · have hxm : x ∈ (nodesOf es).reverse := by
              refine Classical.byContradiction fun q => ?_
              rw [hk.none q] at hb2; cases hb2
            obtain ⟨ix, tix, hix, e1, e2⟩ := hk.get ((List.reverse_perm _).nodup_iff.mpr (List.nodup_append.mp D.nd).1) hxm
            have hring := ring_of D hix e1
            have hlen : (nodesOf es).reverse.length ≤ 6 := by rw [List.length_reverse, List.length_map]; (first | lia | omega)
            (with_reducible refine wpAny_execs_cons ?_); (with_reducible refine wpAny_Return_some ?_); dsimp only; (with_reducible refine wpAny_BinOp ?_); (with_reducible show wpAny _ _ (eval (Expr.Subscript _ (Expr.Slice (some _) none none _) _) _) _ _ _); refine slice_from ?_ (by intro _ _; rfl); (with_reducible show wpAny _ _ (eval (Expr.Name _ _) (envOf _ _ _ _ _)) _ _ _); refine nm_l (by with_reducible assumption) (by with_reducible exact mem_1) (by rfl) ?_ (by rfl) (by rfl) (by decide); (with_reducible refine Subscript_ ?_); (with_reducible show wpAny _ _ (eval (Expr.Name _ _) (envOf _ _ _ _ _)) _ _ _); refine nm_l (by with_reducible assumption) (by with_reducible exact mem_1) (by rfl) ?_ (by rfl) (by rfl) (by decide); (with_reducible show wpAny _ _ (eval (Expr.Name _ _) (envOf _ _ _ _ _)) _ _ _); refine nm_l (by with_reducible assumption) (by with_reducible exact mem_1) (by rfl) ?_ (by rfl) (by rfl) (by decide)
            refine sub_idict H11 (by with_reducible exact mem_5) e2 ?_ (by with_unfolding_all rfl)
            intro s12 H12
            refine ⟨B, _, sk, _, ix, tix, rfl, rfl, by (first | lia | omega), H12, by with_reducible exact mem_2, by (first | lia | omega), fun q s13 H13 => ?_⟩
            rw [Int.toNat_natCast] at H13
            have hdl : ((nodesOf es).reverse.drop ix).length ≤ 6 := by rw [List.length_drop]; (first | lia | omega)
            (with_reducible show wpAny _ _ (eval (Expr.List _ _) _) _ _ _); refine List_ ?_; (with_reducible show wpAny _ _ (spliced (backTo _ (starEach (_ :: _) _))) _ _ _); refine wpAny_items_cons ?_; (with_reducible show wpAny _ _ (eval (Expr.Name _ _) (envOf _ _ _ _ _)) _ _ _); refine nm_l (by with_reducible assumption) (by with_reducible exact mem_2) (by rfl) ?_ (by rfl) (by rfl) (by decide); (with_reducible show wpAny _ _ (spliced (backTo _ (starEach [] _))) _ _ _); refine wpAny_items_nil ?_; (with_reducible show wpAny _ _ (newList [Value.int _ _]) _ _ _); refine newlist_ints (by with_reducible assumption) (.cons _ _ .nil) (by (simp_all; done)) ?_; intro _ _ _; (with_reducible show wpAny _ _ (binaryOp Operator.Add (Value.ref _) (Value.ref _)) _ _ _); refine add_ilst (by with_reducible assumption) (by with_reducible exact mem_1) (by with_reducible exact mem_0) (by (first | lia | omega)) (by (simp_all; done)) ?_; intro _ _ _
            rename_i q2 s14 H14
            subst hQ1 hQ0 hQF
            refine hq2 q2 _ _ hring ?_
            have H15 := St.perm H14 (l' := n2iE PySem.Challenge.pw_xc0002_01 w S 6 ep :: ilst q2 ((nodesOf es).reverse.drop ix ++ [x]) :: tsi S :: tsd w S v2 v3 v4 :: nis S np :: sls S succ :: ilst _ [x] :: ilst q _ :: kiter it S.n 6 ep (i + 1) :: frame L ((Str.ofString "node", .int x tx) :: cfs S dn se ik sk) :: ilst sk _ :: vlst ik _ :: iset PySem.Challenge.pw_xc0002_01 w se sn n :: idict PySem.Challenge.pw_xc0002_01 w dn kvs :: (entRegs S es ++ l)) (by exact permP_perm [11, 0, 8, 8, 8, 8] _)
            have H16 := H15.repWeak .here n2iE_i (fun _ h => h)
            refine St.perm (St.sub H16 (l' := n2i S 6 :: ilst q2 ((nodesOf es).reverse.drop ix ++ [x]) :: tsi S :: tsd w S v2 v3 v4 :: nis S np :: sls S succ :: l) ?_) (by exact permP_perm [1, 1, 1] _)
            iterate 6 (apply List.Sublist.cons_cons)
            iterate 8 (apply List.Sublist.cons)
            exact List.sublist_append_right _ _
          · (with_reducible refine wpAny_execs_nil ?_); dsimp only; (with_reducible refine wpAny_execs_nil ?_); dsimp only
            have hx2 : x ∉ nodesOf es := fun h => by
              obtain ⟨_, _, _, _, e2⟩ := hk.get ((List.reverse_perm _).nodup_iff.mpr (List.nodup_append.mp D.nd).1) (List.mem_reverse.mpr h)
              rw [e2] at hb2; cases hb2
            have hx3 : x ∈ fin := (List.mem_append.mp ((D.seen x).mp hb)).resolve_left hx2
            have hne : es ≠ [] := fun e => by rw [(he0 e).2] at hb; cases hb
            rw [hJ2]
            exact ⟨es, fin, sn, n, x, tx, kvs, by (first | lia | omega), D.skip hx3, he1 hne, hfin, hk, St.perm (by with_reducible assumption) (by exact permP_perm [] _)⟩
        · (with_reducible refine wpAny_execs_cons ?_); (with_reducible show wpAny _ _ (exec (Stmt.Expr _ _) _) _ _ _); refine wpAny_Expr_any ?_; dsimp only; (with_reducible show wpAny _ _ (eval (Expr.Call (Expr.Attribute _ _ _) _ _ _) _) _ _ _); refine MethodCall_ ?_; (with_reducible show wpAny _ _ (eval (Expr.Name _ _) (envOf _ _ _ _ _)) _ _ _); refine nm_l (by with_reducible assumption) (by with_reducible exact mem_1) (by rfl) ?_ (by rfl) (by rfl) (by decide)
          refine gm_set_add (by with_reducible assumption) (by with_reducible exact mem_4) ?_
          (with_reducible show wpAny _ _ (callWith _ (Value.builtin _) _ (backTo _ (starEach (_ :: _) _)) _) _ _ _); refine cw_mach ?_ (by rfl) (by rfl) (by rfl) (by rfl); dsimp only; (with_reducible show wpAny _ _ (spliced (backTo _ (starEach (_ :: _) _))) _ _ _); refine wpAny_items_cons ?_; (with_reducible show wpAny _ _ (eval (Expr.Name _ _) (envOf _ _ _ _ _)) _ _ _); refine nm_l (by with_reducible assumption) (by with_reducible exact mem_1) (by rfl) ?_ (by rfl) (by rfl) (by decide); (with_reducible show wpAny _ _ (spliced (backTo _ (starEach [] _))) _ _ _); refine wpAny_items_nil ?_
          refine add_iset (by with_reducible assumption) (by with_reducible exact rep_4) (by (first | lia | omega)) ?_
          intro s11 H11
          (with_reducible refine wpAny_execs_cons ?_); (with_reducible show wpAny _ _ (exec (Stmt.Expr _ _) _) _ _ _); refine wpAny_Expr_any ?_; dsimp only; (with_reducible show wpAny _ _ (eval (Expr.Call (Expr.Attribute _ _ _) _ _ _) _) _ _ _); refine MethodCall_ ?_; (with_reducible show wpAny _ _ (eval (Expr.Name _ _) (envOf _ _ _ _ _)) _ _ _); refine nm_l (by with_reducible assumption) (by with_reducible exact mem_1) (by rfl) ?_ (by rfl) (by rfl) (by decide)
          refine gm_vlst (by with_reducible assumption) (by with_reducible exact mem_3) F.slot_list_append (by kernel_rfl) ?_
          (with_reducible show wpAny _ _ (callWith _ (Value.builtin _) _ (backTo _ (starEach (_ :: _) _)) _) _ _ _); refine cw_mach ?_ (by rfl) (by rfl) (by rfl) (by rfl); dsimp only; (with_reducible show wpAny _ _ (spliced (backTo _ (starEach (_ :: _) _))) _ _ _); refine wpAny_items_cons ?_; (with_reducible refine Attribute_any_ ?_); (with_reducible show wpAny _ _ (eval (Expr.Call (Expr.Name _ _) _ _ _) _) _ _ _); refine wpAny_Call_ofName ?_; (with_reducible show wpAny _ _ (eval (Expr.Name _ _) (envOf _ _ _ _ _)) _ _ _); refine nm_b (v := .builtin "iter") (by with_reducible assumption) (by with_reducible assumption) (by k_is) (by rfl) ?_ (by decide) (by rfl) (by rfl) (by decide); (with_reducible show wpAny _ _ (callWith _ (Value.builtin _) _ (backTo _ (starEach (_ :: _) _)) _) _ _ _); refine cw_mach ?_ (by rfl) (by rfl) (by rfl) (by rfl); (with_reducible show wpAny _ _ (spliced (backTo _ (starEach (_ :: _) _))) _ _ _); refine wpAny_items_cons ?_; (with_reducible refine Attribute_any_ ?_); (with_reducible refine Subscript_ ?_); (with_reducible show wpAny _ _ (eval (Expr.Name _ _) (envOf _ _ _ _ _)) _ _ _); refine nm_l (by with_reducible assumption) (by with_reducible exact mem_1) (by rfl) ?_ (by rfl) (by rfl) (by decide); (with_reducible show wpAny _ _ (eval (Expr.Name _ _) (envOf _ _ _ _ _)) _ _ _); refine nm_l (by with_reducible assumption) (by with_reducible exact mem_1) (by rfl) ?_ (by rfl) (by rfl) (by decide)
          refine sub_n2iE (prog := PySem.Challenge.pw_xc0002_01) (w := w) (ep := ep) (by with_reducible assumption) (by with_reducible exact mem_8) hx.1 hx.2 ?_ (by with_unfolding_all rfl)
          intro s12 H12
          (with_reducible show wpAny _ _ (getAttr (Value.ref _) (Str.ofString "successors") _) _ _ _); refine ga_succ (by with_reducible assumption) (by with_reducible assumption) (by with_reducible exact mem_9) (by (first | lia | omega)) ?_; intro _ _; (with_reducible show wpAny _ _ (spliced (backTo _ (starEach [] _))) _ _ _); refine wpAny_items_nil ?_
          refine iter_call (S := S) (k := x.toNat) (succ := succ) (n := 6) (by with_reducible assumption) (by (refine List.mem_cons_of_mem _ ?_; with_reducible exact mem_9)) (by (first | lia | omega)) ?_
          intro itn s13 hit H13
          refine ga_next (by show A.depth + 1 < 900; (first | lia | omega)) hh H13 G hit ?_
          intro mn s14 H14
          (with_reducible show wpAny _ _ (spliced (backTo _ (starEach [] _))) _ _ _); refine wpAny_items_nil ?_
          refine append_vlst (by with_reducible assumption) (by with_reducible exact rep_5) (by simp; (first | lia | omega)) ?_
          intro s15 H15
          (with_reducible refine wpAny_execs_cons ?_); (with_reducible show wpAny _ _ (exec (Stmt.Assign [Expr.Subscript _ _ _] _ _) _) _ _ _); refine wpAny_Assign_Subscript ?_; dsimp only; (with_reducible show wpAny _ _ (eval (Expr.Call (Expr.Name _ _) _ _ _) _) _ _ _); refine wpAny_Call_ofName ?_; (with_reducible show wpAny _ _ (eval (Expr.Name _ _) (envOf _ _ _ _ _)) _ _ _); refine nm_b (v := .builtin "len") (by with_reducible assumption) (by with_reducible assumption) (by k_is) (by rfl) ?_ (by decide) (by rfl) (by rfl) (by decide); (with_reducible show wpAny _ _ (callWith _ (Value.builtin _) _ (backTo _ (starEach (_ :: _) _)) _) _ _ _); refine cw_mach ?_ (by rfl) (by rfl) (by rfl) (by rfl); (with_reducible show wpAny _ _ (spliced (backTo _ (starEach (_ :: _) _))) _ _ _); refine wpAny_items_cons ?_; (with_reducible show wpAny _ _ (eval (Expr.Name _ _) (envOf _ _ _ _ _)) _ _ _); refine nm_l (by with_reducible assumption) (by with_reducible exact mem_3) (by rfl) ?_ (by rfl) (by rfl) (by decide); (with_reducible show wpAny _ _ (spliced (backTo _ (starEach [] _))) _ _ _); refine wpAny_items_nil ?_; (with_reducible show wpAny _ _ (call (Value.builtin "len") _) _ _ _); refine len_ilst (by with_reducible assumption) (by with_reducible exact mem_4) (by (simp; (first | lia | omega))) ?_; intro _ _ _; (with_reducible show wpAny _ _ (eval (Expr.Name _ _) (envOf _ _ _ _ _)) _ _ _); refine nm_l (by with_reducible assumption) (by with_reducible exact mem_3) (by rfl) ?_ (by rfl) (by rfl) (by decide); (with_reducible show wpAny _ _ (eval (Expr.Name _ _) (envOf _ _ _ _ _)) _ _ _); refine nm_l (by with_reducible assumption) (by with_reducible exact mem_3) (by rfl) ?_ (by rfl) (by rfl) (by decide)
          rename_i tl s155 H155
          have hxs : x ∉ (nodesOf es).reverse := fun h => by
            rw [(D.seen x).mpr (List.mem_append_left _ (List.mem_reverse.mp h))] at hb; cases hb
          refine si_idict (by with_reducible assumption) (by with_reducible exact rep_7) (by rw [hk.1, List.length_reverse, List.length_map]; (first | lia | omega)) ?_
          intro s16 H16
          have hsz : (nodesOf es).reverse.length ≤ 6 := by rw [List.length_reverse, List.length_map]; (first | lia | omega)
          (with_reducible refine wpAny_execs_cons ?_); (with_reducible show wpAny _ _ (exec (Stmt.Expr _ _) _) _ _ _); refine wpAny_Expr_any ?_; dsimp only; (with_reducible show wpAny _ _ (eval (Expr.Call (Expr.Attribute _ _ _) _ _ _) _) _ _ _); refine MethodCall_ ?_; (with_reducible show wpAny _ _ (eval (Expr.Name _ _) (envOf _ _ _ _ _)) _ _ _); refine nm_l (by with_reducible assumption) (by with_reducible exact mem_3) (by rfl) ?_ (by rfl) (by rfl) (by decide); (with_reducible show wpAny _ _ (getMethod (Value.ref _) (Str.ofString "append") _) _ _ _); refine gm_list (by with_reducible assumption) (by with_reducible exact mem_4) F.slot_list_append (by kernel_rfl) ?_; dsimp only; (with_reducible show wpAny _ _ (callWith _ (Value.builtin _) _ (backTo _ (starEach (_ :: _) _)) _) _ _ _); refine cw_mach ?_ (by rfl) (by rfl) (by rfl) (by rfl); (with_reducible show wpAny _ _ (spliced (backTo _ (starEach (_ :: _) _))) _ _ _); refine wpAny_items_cons ?_; (with_reducible show wpAny _ _ (eval (Expr.Name _ _) (envOf _ _ _ _ _)) _ _ _); refine nm_l (by with_reducible assumption) (by with_reducible exact mem_3) (by rfl) ?_ (by rfl) (by rfl) (by decide); (with_reducible show wpAny _ _ (spliced (backTo _ (starEach [] _))) _ _ _); refine wpAny_items_nil ?_; (with_reducible show wpAny _ _ (call (Value.builtin "list.append") _) _ _ _); refine append_ilst (by with_reducible assumption) (by with_reducible exact rep_4) (by (first | lia | omega)) ?_; intro _ _; (with_reducible refine wpAny_execs_nil ?_); dsimp only
          rename_i s17 H17
          have hw := work_push (succ := succ) hx.1 hx.2 hb
          rw [hJ2]
          refine ⟨⟨mn, itn, x, 0⟩ :: es, fin, _, _, x, tx, stored kvs x (.int (nodesOf es).reverse.length tl), ?_, D.push hx.1 hx.2 hb, ?_, hfin, ?_, ?_⟩
          · show _ + ((succ x.toNat).length - 0 + 1 + hold succ es) ≤ m
            (first | lia | omega)
          · show (sn i || decide ((i : Int) = x)) = true
            by_cases q : es = []
            · rw [(he0 q).1]; simp
            · rw [he1 q]; rfl
          · rw [show (nodesOf (⟨mn, itn, x, 0⟩ :: es)).reverse = (nodesOf es).reverse ++ [x] from List.reverse_cons ..]
            exact hk.push hxs
          · rw [hb, if_neg (by decide)] at H17
            rw [show (nodesOf (⟨mn, itn, x, 0⟩ :: es)).reverse = (nodesOf es).reverse ++ [x] from List.reverse_cons .., show (List.map (fun e => Value.ref e.m) (⟨mn, itn, x, 0⟩ :: es)).reverse = (List.map (fun e => Value.ref e.m) es).reverse ++ [Value.ref mn] from List.reverse_cons ..]
            exact St.perm H17 (l' := kiter it S.n 6 ep (i + 1) :: frame L ((Str.ofString "node", .int x tx) :: cfs S dn se ik sk) :: ilst sk ((nodesOf es).reverse ++ [x]) :: vlst ik ((List.map (fun e => Value.ref e.m) es).reverse ++ [Value.ref mn]) :: iset PySem.Challenge.pw_xc0002_01 w se (fun k' => sn k' || decide (k' = x)) (n + 1) :: idict PySem.Challenge.pw_xc0002_01 w dn (stored kvs x (.int (nodesOf es).reverse.length tl)) :: tsi S :: tsd w S v2 v3 v4 :: n2iE PySem.Challenge.pw_xc0002_01 w S 6 ep :: nis S np :: sls S succ :: mwr mn itn :: liter itn (S.s x.toNat) 0 :: (entRegs S es ++ l)) (by exact permP_perm [2, 2, 2, 2, 2, 2, 2, 2, 2, 2, 2] _)
      · rintro s₁ hJ
        rw [hJ2] at hJ
        obtain ⟨es, fin, sn, n, x, tx, kvs, hm, D, hi6, hfin, hk, H9⟩ := hJ
        (with_reducible refine wpAny_execs_cons ?_)
        refine wpAny_While ?_
        obtain ⟨J3, hJ3⟩ : ∃ J3 : Nat → Shared → Prop, J3 = (fun k => CyJ2 w B l S v2 v3 v4 np succ L dn se ik sk it ep i (fun q => k = q ∧ k ≤ m)) := ⟨_, rfl⟩
        refine codeAny_whileLoop J3 ?_ _ (by rw [hJ3]; exact ⟨es, fin, sn, n, x, tx, kvs, ⟨rfl, hm⟩, D, hi6, hfin, hk, H9⟩)
        clear hm D hi6 hfin hk H9
        rintro k s' hJ
        rw [hJ3] at hJ
        obtain ⟨es, fin, sn, n, x, tx, kvs, ⟨hkk, hkm⟩, D, hi6, hfin, hk, H9⟩ := hJ
        have hn6 : (nodesOf es ++ fin).length ≤ 6 := nodup_len 6 _ D.nd D.rng
        rw [List.length_append, List.length_map] at hn6
        (with_reducible show wpAny _ _ (isTrue _ _ _) _ _ _); refine wpAny_isTrue_value ?_; dsimp only; (with_reducible show wpAny _ _ (eval (Expr.Name _ _) (envOf _ _ _ _ _)) _ _ _); refine nm_l (by with_reducible assumption) (by with_reducible exact mem_1) (by rfl) ?_ (by rfl) (by rfl) (by decide)
        refine truthy_ilst (by with_reducible assumption) (by with_reducible exact mem_2) (by rw [List.length_reverse, List.length_map]; (first | lia | omega)) ?_
        intro s10 H10
        cases es with
        | nil =>
          have H10 : St B s10 (kiter it S.n 6 ep (i + 1) :: frame L ((Str.ofString "node", .int x tx) :: cfs S dn se ik sk) :: ilst sk [] :: vlst ik [] :: iset PySem.Challenge.pw_xc0002_01 w se sn n :: idict PySem.Challenge.pw_xc0002_01 w dn kvs :: ctl w S v2 v3 v4 ep np succ l) := H10
          have hkv : kvs = [] := List.length_eq_zero_iff.mp hk.1
          subst hkv
          refine b_ff ?_ (by rfl)
          (with_reducible refine wpAny_execs_cons ?_); (with_reducible refine wpAny_Break ?_); dsimp only
          have hmem : (i : Int) ∈ fin := by simpa using (D.seen i).mp hi6
          have hfin2 : ∀ j : Nat, j < i + 1 → (j : Int) ∈ fin := fun j hj => by
            by_cases q : j < i
            · exact hfin j q
            · have e : j = i := by (first | lia | omega)
              subst e; exact hmem
          subst hQ1
          (with_reducible refine wpAny_execs_nil ?_)
          subst hQ0
          exact ⟨_, by rw [hI0]; exact ⟨fin, sn, n, D, hfin2, rfl⟩, St.perm (St.reframe (L := L) (fs' := (cfs S dn se ik sk)) H10 (by with_reducible exact rep_1) (by exact Framed.of rfl)) (by exact permP_perm [] _)⟩
        | cons e es =>
          rw [show (nodesOf (e :: es)).reverse = (nodesOf es).reverse ++ [e.x] from List.reverse_cons ..] at H10 hk ⊢
          rw [show (List.map (fun e => Value.ref e.m) (e :: es)).reverse = (List.map (fun e => Value.ref e.m) es).reverse ++ [Value.ref e.m] from List.reverse_cons ..] at H10
          have H10 : St B s10 (kiter it S.n 6 ep (i + 1) :: frame L ((Str.ofString "node", .int x tx) :: cfs S dn se ik sk) :: ilst sk ((nodesOf es).reverse ++ [e.x]) :: vlst ik ((List.map (fun e => Value.ref e.m) es).reverse ++ [Value.ref e.m]) :: iset PySem.Challenge.pw_xc0002_01 w se sn n :: idict PySem.Challenge.pw_xc0002_01 w dn kvs :: tsi S :: tsd w S v2 v3 v4 :: n2iE PySem.Challenge.pw_xc0002_01 w S 6 ep :: nis S np :: sls S succ :: mwr e.m e.it :: liter e.it (S.s e.x.toNat) e.p :: (entRegs S es ++ l)) := H10
          refine b_tt ?_ (by simp)
          refine posts_named fun Q3 E3 hQ3 hE3 => ?_
          refine wpAny_execs_cons (wpAny_Try_except ?_)
          refine posts_named fun Q4 E4 hQ4 hE4 => ?_
          (with_reducible refine wpAny_execs_cons ?_); (with_reducible show wpAny _ _ (exec (Stmt.Assign [Expr.Name _ _] _ _) _) _ _ _); refine wpAny_Assign_Name ?_; dsimp only
          refine Call_ ?_
          (with_reducible refine Subscript_ ?_); (with_reducible show wpAny _ _ (eval (Expr.Name _ _) (envOf _ _ _ _ _)) _ _ _); refine nm_l (by with_reducible assumption) (by with_reducible exact mem_1) (by rfl) ?_ (by rfl) (by rfl) (by decide); (with_reducible refine wpAny_UnaryOp ?_); (with_reducible show wpAny _ _ (eval (Expr.Constant (Const.int _) _ _) _) _ _ _); refine const_int (by with_reducible assumption) ?_; intro _ _ _
          rename_i s11 H11
          refine PyProof.Rows.neg_int (prog := PySem.Challenge.pw_xc0002_01) (w := w) ?_
          refine last_vlst (H11.toks _) (by with_reducible exact mem_3) ?_ (by with_unfolding_all rfl)
          intro s12 H12
          refine cw_mw (m := e.m) (it := e.it) H12 (by (refine List.mem_cons_of_mem _ ?_; refine List.mem_cons_of_mem _ ?_; with_reducible exact mem_9)) ?_ (by rfl)
          have hpl : e.p ≤ (succ e.x.toNat).length := D.good.2.1
          have hex : 0 ≤ e.x ∧ e.x < 6 := D.rng e.x (by simp)
          by_cases hp : e.p < (succ e.x.toNat).length
          · refine mw_item (S := S) (n := 6) (k := e.x.toNat) (succ := succ) H12 (by (refine List.mem_cons_of_mem _ ?_; refine List.mem_cons_of_mem _ ?_; with_reducible exact mem_9)) (by (apply Rep.there; apply Rep.there; apply Rep.there; with_reducible exact rep_9)) (by (refine List.mem_cons_of_mem _ ?_; with_reducible exact mem_9)) (by (first | lia | omega)) hp ?_
            intro t13 s13 H13
            have D' := D.next hp
            have hx' := hsx e.x.toNat _ (List.getElem_mem hp)
            generalize (succ e.x.toNat)[e.p] = x' at *
            (with_reducible show wpAny _ _ (storeName _ _ _) _ _ _); refine st_l (by with_reducible assumption) (by with_reducible exact rep_1) ?_ (by rfl) (by rfl); intro _ _; (with_reducible refine wpAny_execs_cons ?_); (with_reducible refine wpAny_Break ?_); dsimp only
            subst hQ4
            subst hQ3
            (with_reducible refine wpAny_execs_nil ?_)
            subst hQ1
            refine ⟨work succ sn + hold succ (⟨e.m, e.it, e.x, e.p + 1⟩ :: es), ?_, ?_⟩
            · have hold1 : hold succ (e :: es) = (succ e.x.toNat).length - e.p + 1 + hold succ es := rfl
              show work succ sn + ((succ e.x.toNat).length - (e.p + 1) + 1 + hold succ es) < m
              (first | lia | omega)
            rw [hJ1]
            refine ⟨⟨e.m, e.it, e.x, e.p + 1⟩ :: es, fin, sn, n, x', t13, kvs, rfl, D', hx', fun h => (nomatch h), fun _ => hi6, hfin, ?_, ?_⟩
            · rw [show (nodesOf (⟨e.m, e.it, e.x, e.p + 1⟩ :: es)).reverse = (nodesOf es).reverse ++ [e.x] from List.reverse_cons ..]
              exact hk
            · rw [show (nodesOf (⟨e.m, e.it, e.x, e.p + 1⟩ :: es)).reverse = (nodesOf es).reverse ++ [e.x] from List.reverse_cons .., show (List.map (fun e => Value.ref e.m) (⟨e.m, e.it, e.x, e.p + 1⟩ :: es)).reverse = (List.map (fun e => Value.ref e.m) es).reverse ++ [Value.ref e.m] from List.reverse_cons ..]
              exact St.perm (l' := kiter it S.n 6 ep (i + 1) :: frame L ((Str.ofString "node", .int x' t13) :: cfs S dn se ik sk) :: ilst sk ((nodesOf es).reverse ++ [e.x]) :: vlst ik ((List.map (fun e => Value.ref e.m) es).reverse ++ [Value.ref e.m]) :: iset PySem.Challenge.pw_xc0002_01 w se sn n :: idict PySem.Challenge.pw_xc0002_01 w dn kvs :: tsi S :: tsd w S v2 v3 v4 :: n2iE PySem.Challenge.pw_xc0002_01 w S 6 ep :: nis S np :: sls S succ :: mwr e.m e.it :: liter e.it (S.s e.x.toNat) (e.p + 1) :: (entRegs S es ++ l)) (St.reframe (L := L) (fs' := ((Str.ofString "node", .int x' t13) :: cfs S dn se ik sk)) (by with_reducible assumption) (by with_reducible exact rep_1) (by exact Framed.of rfl)) (by exact permP_perm [] _)
          · have hp : e.p = (succ e.x.toNat).length := by (first | lia | omega)
            refine mw_end (S := S) (n := 6) (k := e.x.toNat) (succ := succ) hh H12 (by (refine List.mem_cons_of_mem _ ?_; refine List.mem_cons_of_mem _ ?_; with_reducible exact mem_9)) (by exact .there (.there (.there (.there (.there (.there (.there (.there (.there (.there (.there (.there (.here))))))))))))) (by (refine List.mem_cons_of_mem _ ?_; with_reducible exact mem_9)) (by (first | lia | omega)) hp ?_
            intro ex a0 s13 H13
            subst hE4
            refine note_first (Around.frames_deeper hF) (FrL.cons (L := L) (by show ScopeKind.function ≠ ScopeKind.module; decide) rfl (by with_reducible exact mem_2) (hFl.sub fun x hx => ?_)) rfl H13 .here ?_
            · repeat (first | exact List.mem_append_right _ hx | apply List.mem_cons_of_mem)
            intro T s14 H14
            refine flight_none H14 (by with_reducible exact mem_0) (by with_reducible exact rep_1) ?_
            intro s15 H15
            refine wpAny_handleBy_builtin (X := "StopIteration") (T := "StopIteration") (b := true) (by rw [isSubtype_type]; kernel_rfl) (by kernel_rfl) (by rw [isSubtype_type]; kernel_rfl) ?_
            (with_reducible show wpAny _ _ (eval (Expr.Name _ _) (envOf _ _ _ _ _)) _ _ _); refine nm_b (v := .type "StopIteration") (by with_reducible assumption) (by with_reducible assumption) (by k_is) (by rfl) ?_ (by decide) (by rfl) (by rfl) (by decide)
            refine ⟨rfl, ?_, ?_⟩
            · obtain ⟨o, ho, hc, _⟩ := H15.head
              exact ⟨o, ho, hc⟩
            refine b_tt ?_ (by rfl)
            refine flight_none H15 (by with_reducible exact mem_0) (by with_reducible exact rep_1) ?_
            intro s16 H16
            have hn5 : es.length ≤ 5 := by rw [List.length_cons] at hn6; (first | lia | omega)
            have hstn : ((nodesOf es).reverse ++ [e.x]).Nodup := by
              have := (List.reverse_perm (nodesOf (e :: es))).nodup_iff.mpr (List.nodup_append.mp D.nd).1
              rw [show (nodesOf (e :: es)).reverse = (nodesOf es).reverse ++ [e.x] from List.reverse_cons ..] at this
              exact this
            (with_reducible refine wpAny_execs_cons ?_); (with_reducible refine wpAny_Delete ?_); dsimp only; (with_reducible refine wpAny_deleteEach_cons ?_); (with_reducible refine wpAny_delete_Subscript ?_); (with_reducible show wpAny _ _ (eval (Expr.Name _ _) (envOf _ _ _ _ _)) _ _ _); refine nm_l (by with_reducible assumption) (by with_reducible exact mem_3) (by rfl) ?_ (by rfl) (by rfl) (by decide); (with_reducible show wpAny _ _ (eval (Expr.Call (Expr.Attribute _ _ _) _ _ _) _) _ _ _); refine MethodCall_ ?_; (with_reducible show wpAny _ _ (eval (Expr.Name _ _) (envOf _ _ _ _ _)) _ _ _); refine nm_l (by with_reducible assumption) (by with_reducible exact mem_3) (by rfl) ?_ (by rfl) (by rfl) (by decide)
            refine gm_list (by with_reducible assumption) (by with_reducible exact mem_4) F.slot_list_pop (by kernel_rfl) ?_
            (with_reducible show wpAny _ _ (callWith _ (Value.builtin _) _ (backTo _ (starEach [] _)) _) _ _ _); refine cw_mach0 ?_ (by rfl) (by rfl); dsimp only
            refine pop_ilst (by with_reducible assumption) (by with_reducible exact rep_4) (by rw [List.length_reverse, List.length_map]; (first | lia | omega)) ?_
            intro t17 s17 H17
            obtain ⟨_, _, _, _, hval⟩ := hk.get (x := e.x) hstn (by simp)
            refine del_idict H17 (by with_reducible exact rep_7) (by rw [hval]; rfl) (by rw [hk.1, List.length_append, List.length_reverse, List.length_map, List.length_singleton]; (first | lia | omega)) ?_
            intro s18 H18
            (with_reducible refine wpAny_deleteEach_nil ?_); (with_reducible refine wpAny_execs_cons ?_); (with_reducible show wpAny _ _ (exec (Stmt.Expr _ _) _) _ _ _); refine wpAny_Expr_any ?_; dsimp only; (with_reducible show wpAny _ _ (eval (Expr.Call (Expr.Attribute _ _ _) _ _ _) _) _ _ _); refine MethodCall_ ?_; (with_reducible show wpAny _ _ (eval (Expr.Name _ _) (envOf _ _ _ _ _)) _ _ _); refine nm_l (by with_reducible assumption) (by with_reducible exact mem_3) (by rfl) ?_ (by rfl) (by rfl) (by decide)
            refine gm_vlst (by with_reducible assumption) (by with_reducible exact mem_5) F.slot_list_pop (by kernel_rfl) ?_
            (with_reducible show wpAny _ _ (callWith _ (Value.builtin _) _ (backTo _ (starEach [] _)) _) _ _ _); refine cw_mach0 ?_ (by rfl) (by rfl); dsimp only
            refine pop_vlst (by with_reducible assumption) (by with_reducible exact rep_5) (by rw [List.length_reverse, List.length_map]; (first | lia | omega)) ?_
            intro s19 H19
            (with_reducible refine wpAny_execs_nil ?_); dsimp only; (with_reducible refine wpAny_execs_nil ?_)
            subst hQ3
            refine ⟨work succ sn + hold succ es, ?_, by rw [hJ3]; exact ⟨es, fin ++ [e.x], sn, n, x, tx, _, ⟨rfl, (by have hold1 : hold succ (e :: es) = (succ e.x.toNat).length - e.p + 1 + hold succ es := rfl
                                                                                                                      (first | lia | omega))⟩, D.pop hp, hi6, fun j hj => List.mem_append_left _ (hfin j hj), hk.pop hstn, St.sub (St.perm H19 (l' := mwr e.m e.it :: excr ex _ _ _ :: tbr T _ :: kiter it S.n 6 ep (i + 1) :: frame L ((Str.ofString "node", .int x tx) :: cfs S dn se ik sk) :: ilst sk (nodesOf es).reverse :: vlst ik ((List.map (fun e => Value.ref e.m) es).reverse) :: iset PySem.Challenge.pw_xc0002_01 w se sn n :: idict PySem.Challenge.pw_xc0002_01 w dn (without kvs e.x) :: ctl w S v2 v3 v4 ep np succ (entRegs S es ++ l)) (by exact permP_perm [13] _)) (by exact sub_of [false, false, false] rfl)⟩⟩
            · have hold1 : hold succ (e :: es) = (succ e.x.toNat).length - e.p + 1 + hold succ es := rfl
              (first | lia | omega)
  · rintro l₁ s₁ hI H7
    rw [hI0] at hI
    obtain ⟨fin, sn, n, D, hfin, rfl⟩ := hI
    dsimp only
    (with_reducible refine wpAny_execs_cons ?_); (with_reducible refine wpAny_Return_some ?_); dsimp only; (with_reducible refine wpAny_Constant_none ?_)
    subst hQF
    refine hq1 _ ⟨fin, D.closed, hfin, by simpa using D.nd, fun x hx => D.rng x (by simpa using hx)⟩ ?_
    refine St.repWeak (St.sub (St.perm H7 (l' := frame L (cfs S dn se ik sk) :: ilst sk [] :: vlst ik [] :: iset PySem.Challenge.pw_xc0002_01 w se sn n :: idict PySem.Challenge.pw_xc0002_01 w dn [] :: ctl w S v2 v3 v4 ep np succ l) (by exact permP_perm [] _)) (by exact sub_of [false, false, false, false, false] rfl)) (.there (.there .here)) n2iE_i (fun _ h => h)
end
end
section
open PySem PySem.W PyProof.Rows PySem.Calls PySem.Spec
noncomputable def free (np : Nat → Int) (n : Nat) : List Int := ((List.range n).filter fun k => np k == 0).map fun (k : Nat) => (k : Int)
theorem free_succ (np : Nat → Int) (n : Nat) : free np (n + 1) = free np n ++ (if np n == 0 then [(n : Int)] else []) := by
  unfold free
  rw [List.range_succ, List.filter_append, List.map_append]
  congr 1
  simp only [List.filter_cons, List.filter_nil]
  split <;> simp_all
section
variable {w : World} {A : Around} {s : Shared} {B : Bs} {l : List Reg} {S : Lay} {R : Result → Shared → Prop} {v3 v4 : Value} {np : Nat → Int} {succ : Nat → List Int} {outerE : List Env}
set_option tactic.hygienic true in
theorem prepare_ok (H : St B s (tsi S :: tsd w S .none v3 v4 :: n2i S 6 :: nis S np :: sls S succ :: l)) (G : Gd (hd.heap_39 w.params) B.g)
    (hs : ∀ k, (succ k).length ≤ 10) (hsx : ∀ k, ∀ x ∈ succ k, 0 ≤ x ∧ x < 6) (hA : A.depth < 870) (hh : A.handled = none) (hF : A.frames = some outerE) (hFl : FrL outerE l)
    (hq1 : ∀ r s', Acyc succ → St B s' (tsi S :: tsd w S (.ref r) v3 v4 :: n2i S 6 :: nis S np :: sls S succ :: ilst r (free np 6) :: l) → R (.ok (.ret .none)) s')
    (hq2 : ∀ e t x tk q T ring s', IsRing succ ring → St B s' (excr e (.ref 48) (.ref t) (.ref T) :: tbr T .none :: vtup t [.str x tk, .ref q] :: ilst q ring :: l) → R (.error (.ref e)) s') :
    codeAny (model PySem.Challenge.pw_xc0002_01 w) A (.call (.ref 85) ⟨[.ref S.a], []⟩) R s := by
  refine sl_call (binds := [(Str.ofString "self", .ref S.a)]) (fs := [(Str.ofString "self", .ref S.a)]) H G (by k_is) (by k_is) (Nat.lt_trans hA (by decide)) (BindsTo.of_eq rfl) (locs rfl) rfl (fun L s1 H1 => ?_) (by rfl) (by rfl) (by rfl) (by decide)
  (with_reducible refine wpAny_execs_cons ?_); (with_reducible refine wpAny_If ?_); (with_reducible refine wpAny_isTrue_Compare1 ?_); (with_reducible refine Attribute_any_ ?_); (with_reducible show wpAny _ _ (eval (Expr.Name _ _) (envOf _ _ _ _ _)) _ _ _); refine nm_l (by with_reducible assumption) (by with_reducible exact mem_0) (by rfl) ?_ (by rfl) (by rfl) (by decide); (with_reducible show wpAny _ _ (getAttr (Value.ref _) (Str.ofString "_ready_nodes") _) _ _ _); refine ga_ready (by with_reducible assumption) (by with_reducible assumption) (by with_reducible exact mem_1) (by with_reducible exact mem_2) rfl ?_; intro _ _; (with_reducible refine wpAny_Constant_none ?_); (with_reducible refine isNot_none ?_); (with_reducible refine wpAny_truthy_bool ?_)
  refine b_ff ?_ (by rfl)
  (with_reducible refine wpAny_execs_nil ?_); dsimp only; (with_reducible refine wpAny_execs_cons ?_); (with_reducible show wpAny _ _ (exec (Stmt.Assign [Expr.Attribute _ _ _] _ _) _) _ _ _); refine plainObj_wpAny_Assign_Attribute ?_; dsimp only
  rename_i s2 H2
  obtain ⟨ep, H3⟩ := St.toE (prog := PySem.Challenge.pw_xc0002_01) (w := w) (St.perm H2 (l' := n2i S 6 :: frame L [(Str.ofString "self", .ref S.a)] :: tsi S :: tsd w S .none v3 v4 :: nis S np :: sls S succ :: l) (by exact permP_perm [3] _))
  clear H2 H1
  refine comp_eval ?_ (by rfl) (by rfl) (by decide) (by intro _; rfl)
  (with_reducible show wpAny _ _ (eval (Expr.Call (Expr.Attribute _ _ _) _ _ _) _) _ _ _); refine MethodCall_ ?_; (with_reducible refine Attribute_any_ ?_); (with_reducible show wpAny _ _ (eval (Expr.Name _ _) (envOf _ _ _ _ _)) _ _ _); refine nm_l (by with_reducible assumption) (by with_reducible exact mem_1) (by rfl) ?_ (by rfl) (by rfl) (by decide); (with_reducible show wpAny _ _ (getAttr (Value.ref _) (Str.ofString "_node2info") _) _ _ _); refine ga_n2i (by with_reducible assumption) (by with_reducible assumption) (by with_reducible exact mem_2) (by with_reducible exact mem_3) rfl ?_; intro _ _
  refine gm_n2iE (prog := PySem.Challenge.pw_xc0002_01) (w := w) (ep := ep) (by with_reducible assumption) (by with_reducible exact mem_0) F.slot_dict_values (by kernel_rfl) ?_
  (with_reducible show wpAny _ _ (callWith _ (Value.builtin _) _ (backTo _ (starEach [] _)) _) _ _ _); refine cw_mach0 ?_ (by rfl) (by rfl); dsimp only
  refine call_values (ep := ep) (by with_reducible assumption) (by with_reducible exact mem_0) ?_
  intro v s4 H4
  refine iter_values (ep := ep) H4 (by with_reducible exact mem_1) (by with_reducible exact mem_0) ?_
  intro it s5 H5
  refine comp_done (itr_vals (ep := ep) hh) (fun i l₁ vs => l₁ = n2iE PySem.Challenge.pw_xc0002_01 w S 6 ep :: frame L [(Str.ofString "self", .ref S.a)] :: tsi S :: tsd w S .none v3 v4 :: nis S np :: sls S succ :: l ∧ IntsAre vs (free np i) ∧ vs.length ≤ i ∧ i ≤ 6)
    (St.sub H5 (by exact sub_of [true, false] rfl)) ⟨rfl, .nil, Nat.le_refl _, Nat.zero_le _⟩ ?_ ?_ ?_ ?_ (by decide) (by rfl) (by rfl)
  · rintro i l₁ vs ⟨rfl, _⟩ C D₀ fs
    with_reducible exact mem_2
  · rintro i l₁ vs ⟨_, _, h1, h2⟩; (first | lia | omega)
  · rintro C D₀ i v l₁ vs s₁ hi rfl ⟨rfl, hvs, hl1, hl2⟩ H6
    refine wpAny_tests_one ?_
    (with_reducible refine wpAny_isTrue_Compare1 ?_); (with_reducible refine Attribute_any_ ?_); (with_reducible show wpAny _ _ (eval (Expr.Name _ _) (compEnvC _ _ _ _)) _ _ _); refine nmK_l (by with_reducible assumption) (by with_reducible exact mem_0) (by rfl) ?_ (by rfl) (by rfl) (by decide); (with_reducible show wpAny _ _ (getAttr (Value.ref _) (Str.ofString "npredecessors") _) _ _ _); refine ga_np (by with_reducible assumption) (by with_reducible assumption) (by with_reducible exact mem_7) (by with_reducible assumption) ?_; intro _ _ _; (with_reducible show wpAny _ _ (eval (Expr.Constant (Const.int _) _ _) _) _ _ _); refine const_int (by with_reducible assumption) ?_; intro _ _ _; (with_reducible refine PyProof.Rows.eq_int ?_); (with_reducible refine wpAny_truthy_bool ?_)
    refine b_split (fun hb => ?_) (fun hb => ?_)
    · (with_reducible refine Attribute_any_ ?_); (with_reducible show wpAny _ _ (eval (Expr.Name _ _) (compEnvC _ _ _ _)) _ _ _); refine nmK_l (by with_reducible assumption) (by with_reducible exact mem_0) (by rfl) ?_ (by rfl) (by rfl) (by decide); (with_reducible show wpAny _ _ (getAttr (Value.ref _) (Str.ofString "node") _) _ _ _); refine ga_node (by with_reducible assumption) (by with_reducible assumption) (by with_reducible exact mem_7) (by with_reducible assumption) ?_; intro _ _ _
      refine ⟨_, ⟨rfl, ?_, by rw [List.length_append, List.length_singleton]; (first | lia | omega), by (first | lia | omega)⟩, by with_reducible assumption⟩
      rw [free_succ, if_pos hb]
      exact ints_append hvs (.cons _ _ .nil)
    · refine ⟨_, ⟨rfl, ?_, by (first | lia | omega), by (first | lia | omega)⟩, by with_reducible assumption⟩
      rw [free_succ, if_neg (by rw [hb]; decide), List.append_nil]
      exact hvs
  · rintro D₀ l₁ vs s₁ ⟨rfl, hvs, hl1, hl2⟩ H6
    have H7 := vlst_ints H6 hvs
    have H8 := H7.repWeak (r' := n2i S 6) (.there .here) n2iE_i (fun _ h => h)
    clear H6 H7 H5
    have hfl : (free np 6).length ≤ 6 := by rw [← hvs.length]; (first | lia | omega)
    (with_reducible show wpAny _ _ (eval (Expr.Name _ _) (envOf _ _ _ _ _)) _ _ _); refine nm_l (by with_reducible assumption) (by with_reducible exact mem_2) (by rfl) ?_ (by rfl) (by rfl) (by decide); (with_reducible show wpAny _ _ (setAttr (Value.ref _) (Str.ofString "_ready_nodes") _) _ _ _); refine sa_ready (by with_reducible assumption) (by with_reducible assumption) (by with_reducible exact mem_3) (by with_reducible exact rep_4) ?_; intro _ _; (with_reducible refine wpAny_execs_cons ?_); (with_reducible show wpAny _ _ (exec (Stmt.Assign [Expr.Name _ _] _ _) _) _ _ _); refine wpAny_Assign_Name ?_; dsimp only; (with_reducible show wpAny _ _ (eval (Expr.Call (Expr.Attribute _ _ _) _ _ _) _) _ _ _); refine MethodCall_ ?_; (with_reducible show wpAny _ _ (eval (Expr.Name _ _) (envOf _ _ _ _ _)) _ _ _); refine nm_l (by with_reducible assumption) (by with_reducible exact mem_2) (by rfl) ?_ (by rfl) (by rfl) (by decide)
    refine gm_ts (f := 120) (by assumption) (by assumption) (by with_reducible exact mem_3) (by with_reducible exact mem_4) (by k_is) (by k_is) (by k_is) (fun _ _ _ _ _ => rfl) ?_
    (with_reducible show wpAny _ _ (callWith _ (Value.ref _) _ (backTo _ (starEach [] _)) _) _ _ _); refine cw_fn0 (by with_reducible assumption) (by with_reducible assumption) (by k_is) ?_ (by rfl); dsimp only
    rename_i s9 H9
    refine wpAny_call (find_cycle_ok (np := np) (succ := succ) (l := ilst D₀ (free np 6) :: frame L [(Str.ofString "self", .ref S.a)] :: l) (St.perm H9 (by exact permP_perm [3, 3, 1, 2, 2] _)) G hs hsx (by show A.depth + 1 < 880; (first | lia | omega)) hh (Around.frames_deeper hF) (FrL.cons (L := L) (fs := [(Str.ofString "self", .ref S.a)]) (by show ScopeKind.function ≠ ScopeKind.module; decide) rfl (by with_reducible exact mem_1) (hFl.sub fun x hx => ?_)) ?_ ?_)
    · repeat (first | exact hx | apply List.mem_cons_of_mem)
    · intro s10 hac H10
      dsimp only
      (with_reducible show wpAny _ _ (storeName _ _ _) _ _ _); refine st_l (by with_reducible assumption) (by with_reducible exact rep_6) ?_ (by rfl) (by rfl); intro _ _; (with_reducible refine wpAny_execs_cons ?_); (with_reducible refine wpAny_If ?_); (with_reducible show wpAny _ _ (isTrue _ _ _) _ _ _); refine wpAny_isTrue_value ?_; (with_reducible show wpAny _ _ (eval (Expr.Name _ _) (envOf _ _ _ _ _)) _ _ _); refine nm_l (by with_reducible assumption) (by with_reducible exact mem_6) (by rfl) ?_ (by rfl) (by rfl) (by decide)
      refine wpAny_of_eq (a := false) rfl ?_
      refine b_ff ?_ (by rfl)
      (with_reducible refine wpAny_execs_nil ?_); dsimp only; (with_reducible refine wpAny_execs_nil ?_); dsimp only
      exact hq1 D₀ _ hac (St.sub (St.perm (by with_reducible assumption) (l' := frame L _ :: tsi S :: tsd w S (.ref D₀) v3 v4 :: n2i S 6 :: nis S np :: sls S succ :: ilst D₀ (free np 6) :: l) (by exact permP_perm [6] _)) (by exact sub_of [false] rfl))
    · intro q ring s10 hring H10
      dsimp only
      (with_reducible show wpAny _ _ (storeName _ _ _) _ _ _); refine st_l (by with_reducible assumption) (by with_reducible exact rep_7) ?_ (by rfl) (by rfl); intro _ _; (with_reducible refine wpAny_execs_cons ?_); (with_reducible refine wpAny_If ?_); (with_reducible show wpAny _ _ (isTrue _ _ _) _ _ _); refine wpAny_isTrue_value ?_; (with_reducible show wpAny _ _ (eval (Expr.Name _ _) (envOf _ _ _ _ _)) _ _ _); refine nm_l (by with_reducible assumption) (by with_reducible exact mem_7) (by rfl) ?_ (by rfl) (by rfl) (by decide)
      have hrl : ring ≠ [] ∧ ring.length ≤ 7 := by
        obtain ⟨x, u, rfl, _, _, hnd, hrg⟩ := hring
        have := nodup_len 6 u hnd hrg
        exact ⟨by simp, by simp; (first | lia | omega)⟩
      refine truthy_ilst (by with_reducible assumption) (by with_reducible exact mem_0) (by (first | lia | omega)) ?_
      intro s11 H11
      refine b_tt ?_ (by cases ring with | nil => exact absurd rfl hrl.1 | cons => rfl)
      refine wpAny_execs_cons (raise_ce hh G ?_ (by rfl) (by rfl))
      (with_reducible show wpAny _ _ (eval (Expr.Name _ _) (envOf _ _ _ _ _)) _ _ _); refine nm_g (by with_reducible assumption) (by with_reducible assumption) (by k_is) ?_ (by rfl) (by rfl) (by decide)
      refine ⟨rfl, ?_⟩
      (with_reducible show wpAny _ _ (spliced (backTo _ (starEach (_ :: _) _))) _ _ _); refine wpAny_items_cons ?_
      refine PyProof.Rows.JoinedStr_one (wpAny_Constant_str ?_)
      have H12 := H11.toks (s11.toks + 1)
      (with_reducible show wpAny _ _ (spliced (backTo _ (starEach (_ :: _) _))) _ _ _); refine wpAny_items_cons ?_; (with_reducible show wpAny _ _ (eval (Expr.Name _ _) (envOf _ _ _ _ _)) _ _ _); refine nm_l (by with_reducible assumption) (by with_reducible exact mem_7) (by rfl) ?_ (by rfl) (by rfl) (by decide); (with_reducible show wpAny _ _ (spliced (backTo _ (starEach [] _))) _ _ _); refine wpAny_items_nil ?_
      refine ⟨by simp, _, H12, fun e t s13 H13 => ?_⟩
      refine leave_first (Around.frames_deeper hF) (FrL.cons (L := L) (by show ScopeKind.function ≠ ScopeKind.module; decide) rfl (by with_reducible exact mem_9) (hFl.sub fun x hx => ?_)) rfl H13 .here ?_
      · repeat (first | exact hx | apply List.mem_cons_of_mem)
      intro T s14 H14
      exact hq2 e t _ _ q T ring s14 hring (St.sub (St.perm H14 (l' := excr e (.ref 48) (.ref t) (.ref T) :: tbr T .none :: vtup t _ :: ilst q ring :: tsi S :: tsd w S (.ref D₀) v3 v4 :: n2i S 6 :: nis S np :: sls S succ :: ilst D₀ (free np 6) :: frame L _ :: l) (by exact permP_perm [] _)) (by exact sub_of [true, true, true, true, false, false, false, false, false, false, false] rfl))
end
end
section
open PySem PySem.W PyProof.Rows PySem.Calls PySem.Spec
structure RingFits (needs : Nat → List Int) (ring : List Int) : Prop where
  two : 2 ≤ ring.length
  seven : ring.length ≤ 7
  ends : ring[0]? = ring[ring.length - 1]?
  once : ∀ k (h : k < ring.length), 2 ≤ k → ring[k] ∉ partI ring 1 k
  step : ∀ k (h : k + 1 < ring.length), ring[k] ∈ needs ring[k + 1].toNat
  rng : ∀ x ∈ ring, 0 ≤ x ∧ x < 6
section
variable {prog : Program} {w : World} {A : Around} {s : Shared} {B : Bs} {l : List Reg} {T : Lay} {R : Result → Shared → Prop} {needs : Nat → List Int} {q h : Addr} {ring : List Int} {cls a0 tb : Value}
set_option tactic.hygienic true in
theorem ring_good_ok (H : St B s (outer T :: sls T needs :: ilst q ring :: l)) (G : Gd (hd.heap_39 w.params) B.g) (hR : RingFits needs ring)
    (hA : A.depth < 870) (hu : A.units < 8000) (hh : A.handled = some (.ref h)) (hx : excr h cls a0 tb ∈ l)
    (hq : ∀ s', St B s' l → R (.ok (.ret (.bool true))) s') :
    codeAny (model prog w) A (.call (.ref 151) ⟨[.ref T.a, .ref q], []⟩) R s := by
  obtain ⟨h2, h7, hends, honce, hstep, hrng⟩ := hR
  refine sl_callC (binds := [(Str.ofString "needs", .ref T.a), (Str.ofString "ring", .ref q)]) H G (by k_is) (by k_is) (by show A.depth < 1000; (first | lia | omega)) rfl (by (intro n; repeat (first | exact List.forall_mem_nil _ | refine List.forall_mem_cons.mpr ⟨by first | exact .inl rfl | exact .inr ⟨rfl, rfl⟩, ?_⟩))) (by (intro L; repeat (first | exact trivial | refine ⟨rfl, ?_⟩)))
    (cs := fun L => [cel2 L (some (.ref q)), cel1 L (some (.ref T.a))]) (fun L => rfl) (fs := fun _ => []) (fun L x v h => by cases h) (fun L s1 H1 => ?_) (by rfl) (by rfl) (by rfl)
  dsimp only [List.cons_append, List.nil_append] at H1
  refine post_named fun QF hQF => ?_
  (with_reducible refine wpAny_execs_cons ?_); (with_reducible refine wpAny_If ?_); (with_reducible refine wpAny_isTrue_BoolOp ?_); (with_reducible refine wpAny_allTrue_Or_cons ?_); (with_reducible refine wpAny_isTrue_Compare1 ?_); (with_reducible show wpAny _ _ (eval (Expr.Call (Expr.Name _ _) _ _ _) _) _ _ _); refine wpAny_Call_ofName ?_; (with_reducible show wpAny _ _ (eval (Expr.Name _ _) (envOfC _ _ _ _ _)) _ _ _); refine nmC_b (v := .builtin "len") (by with_reducible assumption) (by with_reducible assumption) (by k_is) (by rfl) ?_ (by decide) (by rfl) (by rfl) (by decide); (with_reducible show wpAny _ _ (callWith _ (Value.builtin _) _ (backTo _ (starEach (_ :: _) _)) _) _ _ _); refine cw_mach ?_ (by rfl) (by rfl) (by rfl) (by rfl); (with_reducible show wpAny _ _ (spliced (backTo _ (starEach (_ :: _) _))) _ _ _); refine wpAny_items_cons ?_; (with_reducible show wpAny _ _ (eval (Expr.Name _ _) (envOfC _ _ _ _ _)) _ _ _); refine nmC_c (by with_reducible assumption) (by rfl) (by with_reducible exact mem_1) ?_ (by rfl) (by rfl) (by decide); (with_reducible show wpAny _ _ (spliced (backTo _ (starEach [] _))) _ _ _); refine wpAny_items_nil ?_; (with_reducible show wpAny _ _ (call (Value.builtin "len") _) _ _ _); refine len_ilst (by with_reducible assumption) (by with_reducible exact mem_5) (by (first | lia | omega)) ?_; intro _ _ _; (with_reducible show wpAny _ _ (eval (Expr.Constant (Const.int _) _ _) _) _ _ _); refine const_int (by with_reducible assumption) ?_; intro _ _ _; (with_reducible refine PyProof.Rows.lt_int ?_); (with_reducible refine wpAny_truthy_bool ?_)
  refine b_ff ?_ (by rw [decide_eq_false_iff_not]; (first | lia | omega))
  (with_reducible refine wpAny_allTrue_Or_cons ?_); (with_reducible refine wpAny_isTrue_Compare1 ?_); (with_reducible refine Subscript_ ?_); (with_reducible show wpAny _ _ (eval (Expr.Name _ _) (envOfC _ _ _ _ _)) _ _ _); refine nmC_c (by with_reducible assumption) (by rfl) (by with_reducible exact mem_1) ?_ (by rfl) (by rfl) (by decide); (with_reducible show wpAny _ _ (eval (Expr.Constant (Const.int _) _ _) _) _ _ _); refine const_int (by with_reducible assumption) ?_; intro _ _ _
  refine sub_ilst (by with_reducible assumption) (by with_reducible exact mem_5) (by (first | lia | omega)) (by (first | lia | omega)) (by show (0 : Int).toNat < _; simp; (first | lia | omega)) ?_ (by with_unfolding_all rfl)
  intro t2 s2 H2
  (with_reducible refine Subscript_ ?_); (with_reducible show wpAny _ _ (eval (Expr.Name _ _) (envOfC _ _ _ _ _)) _ _ _); refine nmC_c (by with_reducible assumption) (by rfl) (by with_reducible exact mem_1) ?_ (by rfl) (by rfl) (by decide); (with_reducible refine wpAny_BinOp ?_); (with_reducible show wpAny _ _ (eval (Expr.Call (Expr.Name _ _) _ _ _) _) _ _ _); refine wpAny_Call_ofName ?_; (with_reducible show wpAny _ _ (eval (Expr.Name _ _) (envOfC _ _ _ _ _)) _ _ _); refine nmC_b (v := .builtin "len") (by with_reducible assumption) (by with_reducible assumption) (by k_is) (by rfl) ?_ (by decide) (by rfl) (by rfl) (by decide); (with_reducible show wpAny _ _ (callWith _ (Value.builtin _) _ (backTo _ (starEach (_ :: _) _)) _) _ _ _); refine cw_mach ?_ (by rfl) (by rfl) (by rfl) (by rfl); (with_reducible show wpAny _ _ (spliced (backTo _ (starEach (_ :: _) _))) _ _ _); refine wpAny_items_cons ?_; (with_reducible show wpAny _ _ (eval (Expr.Name _ _) (envOfC _ _ _ _ _)) _ _ _); refine nmC_c (by with_reducible assumption) (by rfl) (by with_reducible exact mem_1) ?_ (by rfl) (by rfl) (by decide); (with_reducible show wpAny _ _ (spliced (backTo _ (starEach [] _))) _ _ _); refine wpAny_items_nil ?_; (with_reducible show wpAny _ _ (call (Value.builtin "len") _) _ _ _); refine len_ilst (by with_reducible assumption) (by with_reducible exact mem_5) (by (first | lia | omega)) ?_; intro _ _ _; (with_reducible show wpAny _ _ (eval (Expr.Constant (Const.int _) _ _) _) _ _ _); refine const_int (by with_reducible assumption) ?_; intro _ _ _; (with_reducible show wpAny _ _ (binaryOp .Sub (Value.int _ _) (Value.int _ _)) _ _ _); refine bi_sub (by with_reducible assumption) ?_; intro _ _ _
  refine sub_ilst (by with_reducible assumption) (by with_reducible exact mem_5) (by (first | lia | omega)) (by (first | lia | omega)) (by (first | lia | omega)) ?_ (by with_unfolding_all rfl)
  intro t3 s3 H3
  (with_reducible refine PyProof.Rows.ne_int ?_); (with_reducible refine wpAny_truthy_bool ?_)
  have hends2 : ring[0]'(by (first | lia | omega)) = ring[((ring.length : Int) - 1).toNat]'(by (first | lia | omega)) := by
    rw [List.getElem?_eq_getElem (by (first | lia | omega)), List.getElem?_eq_getElem (by (first | lia | omega))] at hends
    simp only [show ((ring.length : Int) - 1).toNat = ring.length - 1 by (first | lia | omega)]
    exact Option.some.inj hends
  refine b_ff ?_ (by
    have e : (ring[(0 : Int).toNat]'(by show 0 < _; (first | lia | omega)) != ring[((ring.length : Int) - 1).toNat]'(by (first | lia | omega))) = false := by
      simp only [bne_eq_false_iff_eq]; exact hends2
    exact e)
  (with_reducible refine wpAny_allTrue_Or_cons ?_); (with_reducible refine wpAny_isTrue_Compare1 ?_)
  refine comp_eval ?_ (by rfl) (by rfl) (by decide) (by intro _; rfl)
  (with_reducible show wpAny _ _ (eval (Expr.Call (Expr.Name _ _) _ _ _) _) _ _ _); refine wpAny_Call_ofName ?_; (with_reducible show wpAny _ _ (eval (Expr.Name _ _) (envOfC _ _ _ _ _)) _ _ _); refine nmC_b (v := .type "range") (by with_reducible assumption) (by with_reducible assumption) (by k_is) (by rfl) ?_ (by decide) (by rfl) (by rfl) (by decide); (with_reducible show wpAny _ _ (callWith _ (Value.type _) _ (backTo _ (starEach (_ :: _) _)) _) _ _ _); refine cw_mach ?_ (by rfl) (by rfl) (by rfl) (by rfl); (with_reducible show wpAny _ _ (spliced (backTo _ (starEach (_ :: _) _))) _ _ _); refine wpAny_items_cons ?_; (with_reducible show wpAny _ _ (eval (Expr.Constant (Const.int _) _ _) _) _ _ _); refine const_int (by with_reducible assumption) ?_; intro _ _ _; (with_reducible show wpAny _ _ (spliced (backTo _ (starEach (_ :: _) _))) _ _ _); refine wpAny_items_cons ?_; (with_reducible show wpAny _ _ (eval (Expr.Call (Expr.Name _ _) _ _ _) _) _ _ _); refine wpAny_Call_ofName ?_; (with_reducible show wpAny _ _ (eval (Expr.Name _ _) (envOfC _ _ _ _ _)) _ _ _); refine nmC_b (v := .builtin "len") (by with_reducible assumption) (by with_reducible assumption) (by k_is) (by rfl) ?_ (by decide) (by rfl) (by rfl) (by decide); (with_reducible show wpAny _ _ (callWith _ (Value.builtin _) _ (backTo _ (starEach (_ :: _) _)) _) _ _ _); refine cw_mach ?_ (by rfl) (by rfl) (by rfl) (by rfl); (with_reducible show wpAny _ _ (spliced (backTo _ (starEach (_ :: _) _))) _ _ _); refine wpAny_items_cons ?_; (with_reducible show wpAny _ _ (eval (Expr.Name _ _) (envOfC _ _ _ _ _)) _ _ _); refine nmC_c (by with_reducible assumption) (by rfl) (by with_reducible exact mem_1) ?_ (by rfl) (by rfl) (by decide); (with_reducible show wpAny _ _ (spliced (backTo _ (starEach [] _))) _ _ _); refine wpAny_items_nil ?_; (with_reducible show wpAny _ _ (call (Value.builtin "len") _) _ _ _); refine len_ilst (by with_reducible assumption) (by with_reducible exact mem_5) (by (first | lia | omega)) ?_; intro _ _ _; (with_reducible show wpAny _ _ (spliced (backTo _ (starEach [] _))) _ _ _); refine wpAny_items_nil ?_; (with_reducible show wpAny _ _ (call (Value.type "range") ([] ++ [Value.int _ _, Value.int _ _])) _ _ _); refine call_rng2 (by with_reducible assumption) ?_; intro _ _ _
  refine iter_rng (n := ring.length - 2) (by with_reducible assumption) (by with_reducible exact mem_0) (by (first | lia | omega)) (by (first | lia | omega)) (.inl (by (first | lia | omega))) ?_
  intro it s4 H4
  refine comp_done (itr_range_h (h := h) (cls := cls) (a0 := a0) (tb := tb) hh) (fun i l₁ vs => vs = [] ∧ i ≤ ring.length - 2 ∧ l₁ = frame L [] :: cel2 L (some (.ref q)) :: cel1 L (some (.ref T.a)) :: outer T :: sls T needs :: ilst q ring :: l)
    (St.sub (St.perm H4 (l' := rng _ _ _ :: riter it 2 (ring.length - 2) 0 :: frame L [] :: cel2 L (some (.ref q)) :: cel1 L (some (.ref T.a)) :: outer T :: sls T needs :: ilst q ring :: l) (by exact permP_perm [1] _)) (by exact sub_of [false] rfl)) ⟨rfl, Nat.zero_le _, rfl⟩ ?_ ?_ ?_ ?_ (by decide) (by rfl) (by rfl)
  · rintro i l₁ vs ⟨_, _, rfl⟩ C D₀ fs
    repeat (first | exact hx | apply List.mem_cons_of_mem)
  · rintro i l₁ vs ⟨rfl, _⟩; simp
  · rintro C D₀ i v l₁ vs s₁ hi ⟨tk, rfl⟩ ⟨rfl, hi2, rfl⟩ H6
    refine wpAny_tests_one ?_
    refine post_named fun Q1 hQ1 => ?_
    (with_reducible refine wpAny_isTrue_Compare1 ?_); (with_reducible refine Subscript_ ?_); (with_reducible show wpAny _ _ (eval (Expr.Name _ _) (compEnvC _ _ _ _)) _ _ _); refine nmK_c (by with_reducible assumption) (by rfl) (by with_reducible exact mem_4) ?_ (by rfl) (by rfl) (by decide); (with_reducible show wpAny _ _ (eval (Expr.Name _ _) (compEnvC _ _ _ _)) _ _ _); refine nmK_l (by with_reducible assumption) (by with_reducible exact mem_0) (by rfl) ?_ (by rfl) (by rfl) (by decide)
    refine sub_ilst (by with_reducible assumption) (by with_reducible exact mem_8) (by (first | lia | omega)) (by (first | lia | omega)) (by (first | lia | omega)) ?_ (by with_unfolding_all rfl)
    intro t7 s7 H7
    (with_reducible show wpAny _ _ (eval (Expr.Subscript _ (Expr.Slice (some _) (some _) none _) _) _) _ _ _); refine slice_both ?_ (by intro _ _; rfl); (with_reducible show wpAny _ _ (eval (Expr.Name _ _) (compEnvC _ _ _ _)) _ _ _); refine nmK_c (by with_reducible assumption) (by rfl) (by with_reducible exact mem_4) ?_ (by rfl) (by rfl) (by decide); (with_reducible show wpAny _ _ (eval (Expr.Constant (Const.int _) _ _) _) _ _ _); refine const_int (by with_reducible assumption) ?_; intro _ _ _; (with_reducible show wpAny _ _ (eval (Expr.Name _ _) (compEnvC _ _ _ _)) _ _ _); refine nmK_l (by with_reducible assumption) (by with_reducible exact mem_0) (by rfl) ?_ (by rfl) (by rfl) (by decide)
    rename_i s8 H8
    refine ⟨B, _, q, ring, 1, 2 + i, _, tk, rfl, rfl, rfl, H8, by with_reducible exact mem_8, by (first | lia | omega), fun q2 s9 H9 => ?_⟩
    (with_reducible show wpAny _ _ (compareOp CmpOp.In (Value.int _ _) (Value.ref _)) _ _ _); refine in_ilst (by with_reducible assumption) (by with_reducible exact mem_0) ?_; intro _ _; (with_reducible refine wpAny_truthy_bool ?_)
    subst hQ1
    try dsimp only
    refine b_ff ?_ (by
      rw [decide_eq_false_iff_not]
      have := honce (2 + i) (by (first | lia | omega)) (by (first | lia | omega))
      simp only [show ((2 : Int) + (i : Int)).toNat = 2 + i by (first | lia | omega)]
      exact this)
    exact ⟨_, ⟨rfl, by (first | lia | omega), rfl⟩, St.sub (by with_reducible assumption) (by exact sub_of [false] rfl)⟩
  · rintro D₀ l₁ vs s₁ ⟨rfl, hi2, rfl⟩ H6
    have H7 := vlst_ints H6 .nil
    clear H6
    (with_reducible show wpAny _ _ (eval (Expr.List _ _) _) _ _ _); refine List_ ?_; (with_reducible show wpAny _ _ (spliced (backTo _ (starEach [] _))) _ _ _); refine wpAny_items_nil ?_; (with_reducible show wpAny _ _ (newList []) _ _ _); refine newlist_ints (by with_reducible assumption) .nil (by (simp_all; done)) ?_; intro _ _ _
    refine ne_ilst (by show A.units + 3 < 9000; (first | lia | omega)) (by with_reducible assumption) (by with_reducible exact mem_1) (by with_reducible exact mem_0) ?_
    intro s8 H8
    (with_reducible refine wpAny_truthy_bool ?_)
    refine b_ff ?_ (by simp)
    have H9 : St B s8 (frame L [] :: cel2 L (some (.ref q)) :: cel1 L (some (.ref T.a)) :: outer T :: sls T needs :: ilst q ring :: l) := St.sub H8 (by exact sub_of [false, false] rfl)
    clear H8 H7 H4 H3 H2
    (with_reducible refine wpAny_allTrue_Or_nil ?_); (with_reducible show (ite _ _ _ : Prop)); refine b_ff ?_ (by with_reducible rfl); (with_reducible refine wpAny_execs_nil ?_); dsimp only; (with_reducible refine wpAny_execs_cons ?_); (with_reducible refine wpAny_Return_some ?_); dsimp only; (with_reducible refine wpAny_Compare1 ?_)
    refine comp_eval ?_ (by rfl) (by rfl) (by decide) (by intro _; rfl)
    (with_reducible show wpAny _ _ (eval (Expr.Call (Expr.Name _ _) _ _ _) _) _ _ _); refine wpAny_Call_ofName ?_; (with_reducible show wpAny _ _ (eval (Expr.Name _ _) (envOfC _ _ _ _ _)) _ _ _); refine nmC_b (v := .type "range") (by with_reducible assumption) (by with_reducible assumption) (by k_is) (by rfl) ?_ (by decide) (by rfl) (by rfl) (by decide); (with_reducible show wpAny _ _ (callWith _ (Value.type _) _ (backTo _ (starEach (_ :: _) _)) _) _ _ _); refine cw_mach ?_ (by rfl) (by rfl) (by rfl) (by rfl); (with_reducible show wpAny _ _ (spliced (backTo _ (starEach (_ :: _) _))) _ _ _); refine wpAny_items_cons ?_; (with_reducible refine wpAny_BinOp ?_); (with_reducible show wpAny _ _ (eval (Expr.Call (Expr.Name _ _) _ _ _) _) _ _ _); refine wpAny_Call_ofName ?_; (with_reducible show wpAny _ _ (eval (Expr.Name _ _) (envOfC _ _ _ _ _)) _ _ _); refine nmC_b (v := .builtin "len") (by with_reducible assumption) (by with_reducible assumption) (by k_is) (by rfl) ?_ (by decide) (by rfl) (by rfl) (by decide); (with_reducible show wpAny _ _ (callWith _ (Value.builtin _) _ (backTo _ (starEach (_ :: _) _)) _) _ _ _); refine cw_mach ?_ (by rfl) (by rfl) (by rfl) (by rfl); (with_reducible show wpAny _ _ (spliced (backTo _ (starEach (_ :: _) _))) _ _ _); refine wpAny_items_cons ?_; (with_reducible show wpAny _ _ (eval (Expr.Name _ _) (envOfC _ _ _ _ _)) _ _ _); refine nmC_c (by with_reducible assumption) (by rfl) (by with_reducible exact mem_1) ?_ (by rfl) (by rfl) (by decide); (with_reducible show wpAny _ _ (spliced (backTo _ (starEach [] _))) _ _ _); refine wpAny_items_nil ?_; (with_reducible show wpAny _ _ (call (Value.builtin "len") _) _ _ _); refine len_ilst (by with_reducible assumption) (by with_reducible exact mem_5) (by (first | lia | omega)) ?_; intro _ _ _; (with_reducible show wpAny _ _ (eval (Expr.Constant (Const.int _) _ _) _) _ _ _); refine const_int (by with_reducible assumption) ?_; intro _ _ _; (with_reducible show wpAny _ _ (binaryOp .Sub (Value.int _ _) (Value.int _ _)) _ _ _); refine bi_sub (by with_reducible assumption) ?_; intro _ _ _; (with_reducible show wpAny _ _ (spliced (backTo _ (starEach [] _))) _ _ _); refine wpAny_items_nil ?_; (with_reducible show wpAny _ _ (call (Value.type "range") ([] ++ [Value.int _ _])) _ _ _); refine call_rng1 (by with_reducible assumption) ?_; intro _ _ _
    refine iter_rng (n := ring.length - 1) (by with_reducible assumption) (by with_reducible exact mem_0) (by (first | lia | omega)) (by (first | lia | omega)) (.inl (by (first | lia | omega))) ?_
    intro it s4 H4
    refine comp_done (itr_range_h (h := h) (cls := cls) (a0 := a0) (tb := tb) hh) (fun i l₁ vs => vs = [] ∧ i ≤ ring.length - 1 ∧ l₁ = frame L [] :: cel2 L (some (.ref q)) :: cel1 L (some (.ref T.a)) :: outer T :: sls T needs :: ilst q ring :: l)
      (St.sub (St.perm H4 (l' := rng _ _ _ :: riter it 0 (ring.length - 1) 0 :: frame L [] :: cel2 L (some (.ref q)) :: cel1 L (some (.ref T.a)) :: outer T :: sls T needs :: ilst q ring :: l) (by exact permP_perm [1] _)) (by exact sub_of [false] rfl)) ⟨rfl, Nat.zero_le _, rfl⟩ ?_ ?_ ?_ ?_ (by decide) (by rfl) (by rfl)
    · rintro i l₁ vs ⟨_, _, rfl⟩ C D₀ fs
      repeat (first | exact hx | apply List.mem_cons_of_mem)
    · rintro i l₁ vs ⟨rfl, _⟩; simp
    · rintro C D₀ i v l₁ vs s₁ hi ⟨tk, rfl⟩ ⟨rfl, hi2, rfl⟩ H6
      refine wpAny_tests_one ?_
      refine post_named fun Q1 hQ1 => ?_
      have hst := hstep i (by (first | lia | omega))
      obtain ⟨r0, r6⟩ := hrng _ (List.getElem_mem (show i + 1 < ring.length by (first | lia | omega)))
      (with_reducible refine wpAny_isTrue_Compare1 ?_); (with_reducible refine Subscript_ ?_); (with_reducible show wpAny _ _ (eval (Expr.Name _ _) (compEnvC _ _ _ _)) _ _ _); refine nmK_c (by with_reducible assumption) (by rfl) (by with_reducible exact mem_4) ?_ (by rfl) (by rfl) (by decide); (with_reducible show wpAny _ _ (eval (Expr.Name _ _) (compEnvC _ _ _ _)) _ _ _); refine nmK_l (by with_reducible assumption) (by with_reducible exact mem_0) (by rfl) ?_ (by rfl) (by rfl) (by decide)
      refine sub_ilst (by with_reducible assumption) (by with_reducible exact mem_8) (by (first | lia | omega)) (by (first | lia | omega)) (by (first | lia | omega)) ?_ (by with_unfolding_all rfl)
      intro t7 s7 H7
      (with_reducible refine Subscript_ ?_); (with_reducible show wpAny _ _ (eval (Expr.Name _ _) (compEnvC _ _ _ _)) _ _ _); refine nmK_c (by with_reducible assumption) (by rfl) (by with_reducible exact mem_5) ?_ (by rfl) (by rfl) (by decide); (with_reducible refine Subscript_ ?_); (with_reducible show wpAny _ _ (eval (Expr.Name _ _) (compEnvC _ _ _ _)) _ _ _); refine nmK_c (by with_reducible assumption) (by rfl) (by with_reducible exact mem_4) ?_ (by rfl) (by rfl) (by decide); (with_reducible refine wpAny_BinOp ?_); (with_reducible show wpAny _ _ (eval (Expr.Name _ _) (compEnvC _ _ _ _)) _ _ _); refine nmK_l (by with_reducible assumption) (by with_reducible exact mem_0) (by rfl) ?_ (by rfl) (by rfl) (by decide); (with_reducible show wpAny _ _ (eval (Expr.Constant (Const.int _) _ _) _) _ _ _); refine const_int (by with_reducible assumption) ?_; intro _ _ _; (with_reducible show wpAny _ _ (binaryOp .Add (Value.int _ _) (Value.int _ _)) _ _ _); refine bi_add (by with_reducible assumption) ?_; intro _ _ _
      refine sub_ilst (by with_reducible assumption) (by with_reducible exact mem_8) (by (first | lia | omega)) (by (first | lia | omega)) (by (first | lia | omega)) ?_ (by with_unfolding_all rfl)
      intro t8 s8 H8
      simp only [show ((0 : Int) + (i : Int)).toNat = i by (first | lia | omega), show ((0 : Int) + (i : Int) + 1).toNat = i + 1 by (first | lia | omega)]
      (with_reducible show wpAny _ _ (subscriptTail _ _ (Value.ref (Lay.a _)) (Value.int _ _)) _ _ _); refine sub_outer (by with_reducible assumption) (by with_reducible exact mem_6) (by with_reducible assumption) (by with_reducible assumption) ?_ (by with_unfolding_all rfl); intro _ _; (with_reducible show wpAny _ _ (compareOp CmpOp.NotIn (Value.int _ _) (Value.ref (Lay.s _ _))) _ _ _); refine notin_sl (by with_reducible assumption) (by with_reducible exact mem_7) (by (first | lia | omega)) ?_; intro _ _; (with_reducible refine wpAny_truthy_bool ?_)
      subst hQ1
      try dsimp only
      refine b_ff ?_ (by rw [decide_eq_true hst]; rfl)
      exact ⟨_, ⟨rfl, by (first | lia | omega), rfl⟩, by with_reducible assumption⟩
    · rintro D₀ l₁ vs s₁ ⟨rfl, hi2, rfl⟩ H6
      have H7 := vlst_ints H6 .nil
      clear H6
      (with_reducible show wpAny _ _ (eval (Expr.List _ _) _) _ _ _); refine List_ ?_; (with_reducible show wpAny _ _ (spliced (backTo _ (starEach [] _))) _ _ _); refine wpAny_items_nil ?_; (with_reducible show wpAny _ _ (newList []) _ _ _); refine newlist_ints (by with_reducible assumption) .nil (by (simp_all; done)) ?_; intro _ _ _
      refine eq_ilst (by show A.units + 3 < 9000; (first | lia | omega)) (by with_reducible assumption) (by with_reducible exact mem_1) (by with_reducible exact mem_0) ?_
      intro s8 H8
      subst hQF
      refine hq _ (St.sub H8 ?_)
      repeat (first | exact List.Sublist.refl _ | apply List.Sublist.cons)
end
end
section
open PySem PySem.W PyProof.Rows PySem.Calls PySem.Spec
set_option tactic.hygienic true in
theorem addE_mem (st : Edges) (x y a : Int) (j : Nat) : a ∈ (addE st x y).2 j ↔ a ∈ st.2 j ∨ (a = x ∧ y.toNat = j) := by
  unfold addE; dsimp only
  split
  · rename_i h; subst h; simp
  · rename_i h; constructor
    · exact .inl
    · rintro (h' | ⟨_, h'⟩)
      · exact h'
      · exact absurd h'.symm h
theorem addEs_mem (x a : Int) (j : Nat) : ∀ (ys : List Int) (st : Edges), a ∈ (ys.foldl (fun st y => addE st x y) st).2 j ↔ a ∈ st.2 j ∨ (a = x ∧ ∃ y ∈ ys, y.toNat = j)
  | [], st => by simp
  | y :: ys, st => by
    rw [List.foldl_cons, addEs_mem x a j ys, addE_mem]
    constructor
    · rintro ((h | ⟨h1, h2⟩) | ⟨h1, z, h2, h3⟩)
      · exact .inl h
      · exact .inr ⟨h1, y, .head _, h2⟩
      · exact .inr ⟨h1, z, .tail _ h2, h3⟩
    · rintro (h | ⟨h1, z, h2, h3⟩)
      · exact .inl (.inl h)
      · rcases List.mem_cons.mp h2 with rfl | h2
        · exact .inl (.inr ⟨h1, h3⟩)
        · exact .inr ⟨h1, z, h2, h3⟩
theorem addRows_mem {needs : Nat → List Int} (a : Int) (j : Nat) : ∀ (ks : List Nat) (st : Edges), a ∈ (ks.foldl (addRow needs) st).2 j ↔ a ∈ st.2 j ∨ ∃ k ∈ ks, a = k ∧ ∃ y ∈ needs k, y.toNat = j
  | [], st => by simp
  | k :: ks, st => by
    rw [List.foldl_cons, addRows_mem a j ks]
    unfold addRow
    rw [addEs_mem]
    constructor
    · rintro ((h | ⟨h1, h2⟩) | ⟨z, h2, h3⟩)
      · exact .inl h
      · exact .inr ⟨k, .head _, h1, h2⟩
      · exact .inr ⟨z, .tail _ h2, h3⟩
    · rintro (h | ⟨z, h2, h3⟩)
      · exact .inl (.inl h)
      · rcases List.mem_cons.mp h2 with rfl | h2
        · exact .inl (.inr h3)
        · exact .inr ⟨z, h2, h3⟩
theorem built_mem {needs : Nat → List Int} (a : Int) (j : Nat) : a ∈ (built needs).2 j ↔ ∃ k : Nat, k < 6 ∧ a = (k : Int) ∧ ∃ y ∈ needs k, y.toNat = j := by
  unfold built
  rw [addRows_mem]
  simp [built0]
theorem built_edge {needs : Nat → List Int} (hn : ∀ j, j < 6 → ∀ x ∈ needs j, 0 ≤ x ∧ x < 6) {a b : Int} (hb : 0 ≤ b) (h : a ∈ (built needs).2 b.toNat) : b ∈ needs a.toNat ∧ 0 ≤ a ∧ a < 6 := by
  obtain ⟨k, hk, rfl, y, hy, e⟩ := (built_mem a b.toNat).mp h
  have := hn k hk y hy
  have e2 : y = b := by (first | lia | omega)
  subst e2
  exact ⟨by simpa using hy, by (first | lia | omega), by (first | lia | omega)⟩
theorem ChainR.at {succ : Nat → List Int} : ∀ {v : List Int}, ChainR succ v → ∀ i (h : i + 1 < v.length), v[i] ∈ succ v[i + 1].toNat
  | [], _, i, h => by simp at h
  | [_], _, i, h => by simp at h
  | a :: b :: r, hc, 0, h => hc.1
  | a :: b :: r, hc, i + 1, h => ChainR.at hc.2 i (by simpa using h)
theorem clip_nat {n k : Nat} (h : k ≤ n) : clipAt n (k : Int) = k := by
  unfold clipAt; rw [if_neg (by (first | lia | omega))]; (first | lia | omega)
theorem ring_fits {needs : Nat → List Int} (hn : ∀ j, j < 6 → ∀ x ∈ needs j, 0 ≤ x ∧ x < 6) {ring : List Int} (h : IsRing (built needs).2 ring) : RingFits needs ring := by
  obtain ⟨x, u, rfl, hc, hl, hnd, hr⟩ := h
  obtain ⟨u0, rfl⟩ : ∃ u0, u = u0 ++ [x] := by
    have hne : u ≠ [] := by intro e; subst e; simp at hl
    refine ⟨u.dropLast, ?_⟩
    rw [List.getLast?_eq_some_getLast hne, Option.some.injEq] at hl
    rw [← hl]; exact (List.dropLast_concat_getLast hne).symm
  have hlen : (u0 ++ [x]).length ≤ 6 := nodup_len 6 _ hnd hr
  have e : (x :: (u0 ++ [x])).reverse = x :: (u0.reverse ++ [x]) := by simp
  have hx := hr x (by simp)
  have hrng : ∀ y ∈ x :: (u0.reverse ++ [x]), 0 ≤ y ∧ y < 6 := by
    intro y hy
    refine hr y ?_
    simp at hy ⊢
    rcases hy with h | h | h
    · exact .inr h
    · exact .inl h
    · exact .inr h
  have hnt : (u0.reverse ++ [x]).Nodup := by
    rw [List.nodup_append] at hnd ⊢
    exact ⟨(List.reverse_perm _).nodup_iff.mpr hnd.1, hnd.2.1, fun a ha b hb => hnd.2.2 a (List.mem_reverse.mp ha) b hb⟩
  refine ⟨by simp, by simp at hlen ⊢; (first | lia | omega), ?_, ?_, ?_, by rw [e]; exact hrng⟩
  · rw [e]; simp
  · rw [e]
    intro k hk h2 hm
    unfold partI at hm
    have c1 : clipAt (x :: (u0.reverse ++ [x])).length 1 = 1 := clip_nat (k := 1) (by simp)
    rw [c1, clip_nat (Nat.le_of_lt hk), List.drop_succ_cons, List.drop_zero] at hm
    obtain ⟨j, hj, ej⟩ := List.mem_take_iff_getElem.mp hm
    obtain ⟨k', rfl⟩ : ∃ k', k = k' + 1 := ⟨k - 1, by (first | lia | omega)⟩
    rw [List.getElem_cons_succ] at ej
    exact (List.pairwise_iff_getElem.mp hnt j k' (by (first | lia | omega)) (by simpa using hk) (by (first | lia | omega))) ej
  · intro k hk
    have hk' : k + 1 < (x :: (u0 ++ [x])).length := by simpa using hk
    have h1 := hc.at ((x :: (u0 ++ [x])).length - 2 - k) (by (first | lia | omega))
    rw [List.getElem_reverse, List.getElem_reverse]
    have e1 : (x :: (u0 ++ [x])).length - 1 - k = (x :: (u0 ++ [x])).length - 2 - k + 1 := by (first | lia | omega)
    have e2 : (x :: (u0 ++ [x])).length - 1 - (k + 1) = (x :: (u0 ++ [x])).length - 2 - k := by (first | lia | omega)
    simp only [e1, e2]
    refine (built_edge hn ?_ h1).1
    refine (hr _ ?_).1
    rw [List.getElem_cons_succ]
    exact List.getElem_mem _
end
section
open PySem PySem.W PySem.W.X PyProof.Rows PySem.Calls PySem.Spec
section
variable {w : World} {A : Around} {s : Shared} {B : Bs} {l : List Reg} {S : Lay} {R : Result → Shared → Prop} {np : Nat → Int} {succ : Nat → List Int} {out : List Int} {o : Int} {t3 t4 : Nat}
set_option tactic.hygienic true in
theorem order_ok (H : St B s l) (G : Gd (hd.heap_39 w.params) B.g) (hA : A.depth < 900)
    (hs : ∀ k, (succ k).length ≤ 10) (hsx : ∀ k, ∀ x ∈ succ k, 0 ≤ x ∧ x < 6) (hno : ∀ ring, ¬ IsRing succ ring) (hkr : Acyc succ → Kr succ np (free np 6) out)
    (hq : ∀ L a c s', St (B.gen (B.gens.push (.fresh c))) s' (genr a B.gens.size :: frame L [(Str.ofString "self", .ref S.a)] :: l) →
      Goes w out [frame L [(Str.ofString "self", .ref S.a)], tsi S, tsd w S .none (.int o t3) (.int o t4), n2i S 6, nis S np, sls S succ] c (denote table c) [] → R (.ok (.ret (.ref a))) s') :
    codeAny (model PySem.Challenge.pw_xc0002_01 w) A (.call (.ref 127) ⟨[.ref S.a], []⟩) R s := by
  refine sl_gen (binds := [(Str.ofString "self", .ref S.a)]) (fs := [(Str.ofString "self", .ref S.a)]) H G (by k_is) (by k_is) (Nat.lt_trans hA (by decide)) (BindsTo.of_eq rfl) (locs rfl) rfl (fun L a s1 H1 => ?_) (by rfl) (by rfl) (by rfl) (by decide)
  refine hq L a _ s1 H1 ?_
  clear hq H1 H
  rintro A E0 B s lc O H
  refine sx_func fun Hh => ?_
  refine sx_stmt ?_
  simp only [List.cons_append, List.nil_append] at H
  have H1 : St B s (tsi S :: tsd w S .none (.int o t3) (.int o t4) :: n2i S 6 :: nis S np :: sls S succ :: frame L [(Str.ofString "self", .ref S.a)] :: lc) := St.perm H (by exact permP_perm [1, 1, 1, 1, 1] _)
  have G := O.g
  (with_reducible show wpAny _ _ (exec (Stmt.Expr _ _) _) _ _ _); refine wpAny_Expr_any ?_; dsimp only; (with_reducible show wpAny _ _ (eval (Expr.Call (Expr.Attribute _ _ _) _ _ _) _) _ _ _); refine MethodCall_ ?_; (with_reducible show wpAny _ _ (eval (Expr.Name _ _) (envOf _ _ _ _ _)) _ _ _); refine nm_l (by with_reducible assumption) (by with_reducible exact mem_5) (by rfl) ?_ (by rfl) (by rfl) (by decide)
  refine gm_ts (f := 85) (by assumption) (by assumption) (by with_reducible exact mem_0) (by with_reducible exact mem_1) (by k_is) (by k_is) (by k_is) (fun _ _ _ _ _ => rfl) ?_
  (with_reducible show wpAny _ _ (callWith _ (Value.ref _) _ (backTo _ (starEach [] _)) _) _ _ _); refine cw_fn0 (by with_reducible assumption) (by with_reducible assumption) (by k_is) ?_ (by rfl); dsimp only
  refine wpAny_call (prepare_ok (np := np) (succ := succ) (l := frame L [(Str.ofString "self", .ref S.a)] :: lc) H1 G hs hsx (over_d O.d (by rfl)) O.h (over_f O.f (by rfl)) ?_ ?_ (fun _ _ _ _ _ _ ring _ h => (hno ring h).elim))
  · exact FrL.cons (L := L) (fs := [(Str.ofString "self", .ref S.a)]) (fun h => ScopeKind.noConfusion h) rfl (by with_reducible exact mem_0) (O.l.sub fun x hx => .tail _ hx)
  intro r s3 hac H3
  dsimp only
  refine sx_execs_cons ?_
  refine sx_While fun p => ?_
  refine so_loop (succ := succ) (fun np rdy lg => ∃ o t3 t4, lg = [frame L [(Str.ofString "self", .ref S.a)], tsi S, tsd w S (.ref r) (.int o t3) (.int o t4), n2i S 6, nis S np, sls S succ, ilst r rdy]) ?_ (hkr hac) _ ⟨o, t3, t4, rfl⟩ A E0 B s3 lc O ?_
  rotate_left
  · simp only [List.cons_append, List.nil_append]
    exact St.perm H3 (by exact permP_perm [6] _)
  clear H3 hac H1 H O hkr
  rintro np rdy out lg ⟨o, t3, t4, rfl⟩ hcase A E0 B s lc O H
  clear G
  have G := O.g
  simp only [List.cons_append, List.nil_append] at H
  have hz : rdy.length ≤ 50 := by
    rcases hcase with ⟨rfl, _⟩ | ⟨_, h, _⟩
    · exact Nat.zero_le _
    · exact h
  refine sx_whileLoop ?_
  (with_reducible show wpAny _ _ (isTrue _ _ _) _ _ _); refine wpAny_isTrue_value ?_; dsimp only; (with_reducible show wpAny _ _ (eval (Expr.Call (Expr.Attribute _ _ _) _ _ _) _) _ _ _); refine MethodCall_ ?_; (with_reducible show wpAny _ _ (eval (Expr.Name _ _) (envOf _ _ _ _ _)) _ _ _); refine nm_l (by with_reducible assumption) (by with_reducible exact mem_0) (by rfl) ?_ (by rfl) (by rfl) (by decide)
  refine gm_ts (f := 99) (by assumption) (by assumption) (by with_reducible exact mem_1) (by with_reducible exact mem_2) (by k_is) (by k_is) (by k_is) (fun _ _ _ _ _ => rfl) ?_
  (with_reducible show wpAny _ _ (callWith _ (Value.ref _) _ (backTo _ (starEach [] _)) _) _ _ _); refine cw_fn0 (by with_reducible assumption) (by with_reducible assumption) (by k_is) ?_ (by rfl); dsimp only
  refine wpAny_call (is_active_ok (np := np) (succ := succ) (xs := rdy) (r := r) (l := frame L [(Str.ofString "self", .ref S.a)] :: lc) (St.perm H (by exact permP_perm [1, 1, 1, 1, 1, 1] _)) G (by ((with_reducible refine Nat.le_trans (by with_reducible assumption) ?_); exact Nat.le_of_ble_eq_true rfl)) (Nat.lt_trans (over_d O.d (by rfl)) (by decide)) fun s2 H2 => ?_)
  dsimp only
  refine wpAny_truthy_bool ?_
  rcases hcase with ⟨rfl, rfl⟩ | ⟨hne, hz', hx, hpre, out', rfl, hnext⟩
  · rw [if_neg (by simp)]
    intro Hh2
    refine sx_execs_nil ?_
    refine X.s_pop _ w A _ _ _ s2 (.ok .next) _ rfl _ _ _ _ _ _ _ ?_
    refine X.s_end _ w A _ _ s2 (.ok (.ret .none)) _ rfl ?_
    exact ⟨rfl, St.sub (St.perm H2 (l' := frame L [(Str.ofString "self", .ref S.a)] :: tsi S :: tsd w S (.ref r) (.int o t3) (.int o t4) :: n2i S 6 :: nis S np :: sls S succ :: ilst r [] :: lc) (by exact permP_perm [6] _)) (by exact sub_of [false, false, false, false, false, false, false] rfl)⟩
  · rw [if_pos (by simp [hne])]
    intro Hh2
    refine sx_stmt ?_
    (with_reducible show wpAny _ _ (exec (Stmt.Assign [Expr.Name _ _] _ _) _) _ _ _); refine wpAny_Assign_Name ?_; dsimp only; (with_reducible show wpAny _ _ (eval (Expr.Call (Expr.Attribute _ _ _) _ _ _) _) _ _ _); refine MethodCall_ ?_; (with_reducible show wpAny _ _ (eval (Expr.Name _ _) (envOf _ _ _ _ _)) _ _ _); refine nm_l (by with_reducible assumption) (by with_reducible exact mem_6) (by rfl) ?_ (by rfl) (by rfl) (by decide)
    refine gm_ts (f := 92) (by assumption) (by assumption) (by with_reducible exact mem_0) (by with_reducible exact mem_1) (by k_is) (by k_is) (by k_is) (fun _ _ _ _ _ => rfl) ?_
    (with_reducible show wpAny _ _ (callWith _ (Value.ref _) _ (backTo _ (starEach [] _)) _) _ _ _); refine cw_fn0 (by with_reducible assumption) (by with_reducible assumption) (by k_is) ?_ (by rfl); dsimp only
    refine wpAny_call (get_ready_ok (np := np) (succ := succ) (xs := rdy) (r := r) (l := frame L [(Str.ofString "self", .ref S.a)] :: lc) H2 G hx (by ((with_reducible refine Nat.le_trans (by with_reducible assumption) ?_); exact Nat.le_of_ble_eq_true rfl)) (Nat.lt_trans (over_d O.d (by rfl)) (by decide)) O.h fun t t3' s3 H3 => ?_)
    dsimp only
    (with_reducible show wpAny _ _ (storeName _ _ _) _ _ _); refine st_l (by with_reducible assumption) (by with_reducible exact rep_7) ?_ (by rfl) (by rfl); intro _ _
    rename_i s4 H4
    refine sx_execs_cons ?_
    refine sx_YieldFrom rfl ?_
    (with_reducible show wpAny _ _ (eval (Expr.Name _ _) (envOf _ _ _ _ _)) _ _ _); refine nm_l (by with_reducible assumption) (by with_reducible exact mem_7) (by rfl) ?_ (by rfl) (by rfl) (by decide); dsimp only
    refine ⟨t, rdy, B, _, rfl, H4, by with_reducible exact mem_0, fun it s5 k p hk H5 => ?_⟩
    refine yf_goes (w := w) (out := out') (rdy := rdy) (it := it) (t := t) (lg := [itup t rdy, frame L [(Str.ofString "node_group", .ref t), (Str.ofString "self", .ref S.a)], tsi S, tsd w S (.ref r) (.int (o + rdy.length) t3') (.int o t4), n2i S 6, nis S (outed np rdy), sls S succ, ilst r []])
      (by with_reducible exact mem_0) rfl rfl ?hmk ?fin rdy.length 0 (by (first | lia | omega)) A E0 B s5 lc O ?hst
    case hst =>
      simp only [List.cons_append, List.nil_append]
      exact St.perm H5 (by exact permP_perm [0, 0, 6] _)
    case hmk => intro A h; exact h
    clear H5 H4 H3 H2 H O G
    rintro A E0 B s lc O H
    have G := O.g
    simp only [List.cons_append, List.nil_append] at H
    refine X.s_pop _ w A _ _ _ s (.ok (.ret .none)) _ rfl _ _ _ _ _ _ _ ?_
    rw [hk]
    refine sx_stmt ?_
    (with_reducible show wpAny _ _ (exec (Stmt.Expr _ _) _) _ _ _); refine wpAny_Expr_any ?_; dsimp only
    refine MethodCallS ?_ (by rfl)
    (with_reducible show wpAny _ _ (eval (Expr.Name _ _) (envOf _ _ _ _ _)) _ _ _); refine nm_l (by with_reducible assumption) (by with_reducible exact mem_1) (by rfl) ?_ (by rfl) (by rfl) (by decide)
    refine ga_meth (f := 113) (by assumption) G (by with_reducible exact mem_2) (by with_reducible exact mem_3) (by k_is) (by k_is) (by k_is) (by k_is) (by k_is) (by k_is) (by decide) (fun _ _ _ _ _ => rfl) ?_
    intro q s6 H6
    refine cw_methS (B := B) (a := S.a) (g := 113) G (by k_is) ?_ (by rfl)
    (with_reducible show wpAny _ _ (eval (Expr.Name _ _) (envOf _ _ _ _ _)) _ _ _); refine nm_l (by with_reducible assumption) (by with_reducible exact mem_2) (by rfl) ?_ (by rfl) (by rfl) (by decide)
    refine star_itup H6 (by with_reducible exact mem_1) (by ((with_reducible refine Nat.le_trans (by with_reducible assumption) ?_); exact Nat.le_of_ble_eq_true rfl)) fun vs s7 hv H7 => ⟨⟨_, H7, by with_reducible exact mem_0⟩, ?_⟩
    refine call_meth H7 (by with_reducible exact mem_0) ?_
    refine done_ok (np := outed np rdy) (succ := succ) (rdy := []) (xs := rdy) (r := r) (out := o + rdy.length) (fin := o) (l := methr q 113 S.a :: itup t rdy :: frame L [(Str.ofString "node_group", .ref t), (Str.ofString "self", .ref S.a)] :: lc) (St.perm H7 (by exact permP_perm [3, 3, 3, 3, 3, 3] _)) G hv hx hz (Nat.zero_le _) hs hsx (Nat.lt_trans (over_d O.d (by rfl)) (by decide)) O.h hpre fun t4' s8 H8 => ?_
    dsimp only
    refine sx_execs_nil ?_
    refine X.s_again _ w A _ _ _ s8 _ rfl ?_
    have H9 : St B s8 (frame L [(Str.ofString "node_group", .ref t), (Str.ofString "self", .ref S.a)] :: tsi S :: tsd w S (.ref r) (.int (o + rdy.length) t3') (.int (o + rdy.length) t4') :: n2i S 6 :: nis S ((rdy.foldl (doneOne succ) (outed np rdy, [])).1) :: sls S succ :: ilst r (rdy.foldl (doneOne succ) (outed np rdy, [])).2 :: lc) :=
      St.sub (St.perm H8 (l' := methr q 113 S.a :: itup t rdy :: frame L [(Str.ofString "node_group", .ref t), (Str.ofString "self", .ref S.a)] :: tsi S :: tsd w S (.ref r) (.int (o + rdy.length) t3') (.int (o + rdy.length) t4') :: n2i S 6 :: nis S ((rdy.foldl (doneOne succ) (outed np rdy, [])).1) :: sls S succ :: ilst r (rdy.foldl (doneOne succ) (outed np rdy, [])).2 :: lc) (by exact permP_perm [6, 6, 6] _)) (by exact sub_of [false, false] rfl)
    exact hnext _ ⟨_, _, _, rfl⟩ A E0 B s8 lc O (H9.forget .here)
end
end
section
open PySem PySem.W PyProof.Rows PySem.Calls PySem.Spec
section
variable {prog : Program} {w : World} {A : Around} {E : Value → Shared → Prop} {s : Shared} {B : Bs} {l : List Reg} {S : Lay} {n : Nat} {k : Int} {t : Nat}
theorem miss_n2i {Q : Value → Shared → Prop} (H : St B s l) (hm : n2i S n ∈ l) (hn : ¬ (0 ≤ k ∧ k < n)) (h : ∀ s', St B s' l → Q .none s') :
    wpAny (model prog w) A (call (.builtin "dict.get") [.ref S.n, .int k t]) Q E s := by
  obtain ⟨o, ho, hns, es, ep, rfl, hs, he⟩ := H.get hm
  have hM := n2i_map H hm
  refine call_meetsIn F.slot_dict_get ⟨_, ho, rfl⟩ F.entry_dict_get (F.args_dict_get_2 _ _) (meets_dict_get (intKind prog w) S.n (k := k) (by show Value.isInt k (.int k t) = true; simp [Value.isInt]) hns)
    ⟨_, hM.mapOf (fun o' ho' => by rw [ho] at ho'; cases ho'; exact ⟨rfl, rfl⟩), ?_⟩
  rw [if_neg hn]; exact h _ (H.toks _)
end
theorem loop_leaves {M : Model} {A : Around} {env : Env} {outer : List Env} {L e t0 : Addr} {fs : List (Str × Value)} {cls : Value} {B : Bs} {s : Shared} {l : List Reg} {P : Value → Shared → Prop} (hfr : A.frames = some (env :: outer)) (hk : env.scope.kind ≠ .module) (hf : env.frame = some L)
    (hFl : FrL outer l) (hm : frame L fs ∈ l) (H : St B s (excr e cls (.ref t0) .none :: l)) (h : ∀ T s', St B s' (excr e cls (.ref t0) (.ref T) :: tbr T .none :: l) → P (.ref e) s') :
    notedBy M A env (fun e s' => cameBackBy M A env (fun e s' => wpAny M A (leaving env e) (fun _ s'' => P e s'') (fun e' s'' => P e' s'') s') e s') (.ref e) s := by
  refine note_first (L := L) hfr (FrL.cons hk hf (.tail _ hm) (hFl.sub fun x hx => .tail _ hx)) hf H .here ?_
  intro T s7 H7
  refine came_back (L := L) hf H7 (.head _) (.there .here) ?_
  intro s8 H8
  exact leave_same (L := L) hf H8 (.head _) (.there .here) fun s9 H9 => h T s9 H9
theorem raise_node {prog : Program} {w : World} {A : Around} {E : Value → Shared → Prop} {s : Shared} {B : Bs} {l : List Reg} {env : Env} {s1 s2 : Str} {k1 k2 : Nat} {np cpos pos p1 p2 p3 p4 : Pos} {nd : Expr} {x : Int} {t : Nat} {Q : Flow → Shared → Prop} (hh : A.handled = none) (H : St B s l)
    (hN : ∀ {Q : Value → Shared → Prop} s, St B s l → Q (.type "ValueError") s → wpAny (model prog w) A (eval (.Name (Str.ofString "ValueError") np) env) Q E s)
    (hV : ∀ {Q : Value → Shared → Prop} s, St B s l → Q (.int x t) s → wpAny (model prog w) A (eval nd env) Q E s) (hx0 : 0 ≤ x) (hx1 : x < 100) (h1 : s1.length ≤ 100) (h2 : s2.length ≤ 100)
    (h : ∀ e t s', St B s' (excr e (.type "ValueError") (.ref t) .none :: l) → E (.ref e) s') :
    wpAny (model prog w) A (exec (.Raise (some (.Call (.Name (Str.ofString "ValueError") np) [.JoinedStr [.Constant (.str s1) k1 p1, .FormattedValue nd 114 none p2, .Constant (.str s2) k2 p3] p4] [] cpos)) none pos) env) Q E s := by
  refine raise_ve (B := B) hh (hN s H ⟨rfl, ?_⟩) (by rfl) (by rfl)
  (with_reducible show wpAny _ _ (spliced (backTo _ (starEach (_ :: _) _))) _ _ _); refine wpAny_items_cons ?_
  refine fstr3 H (fun s7 H7 => hV s7 H7 ⟨_, _, rfl, hx0, hx1, H7, fun y u s8 H8 => ?_⟩) h1 h2
  (with_reducible show wpAny _ _ (spliced (backTo _ (starEach [] _))) _ _ _); refine wpAny_items_nil ?_
  exact ⟨by simp, _, H8, fun e t0 s9 H9 => h e t0 s9 H9⟩
section
variable {prog : Program} {w : World} {A : Around} {s : Shared} {B : Bs} {l : List Reg} {S : Lay} {R : Result → Shared → Prop} {rdy : List Int} {vs : List Value} {r : Addr} {x out fin : Int} {t3 t4 : Nat} {np : Nat → Int} {succ : Nat → List Int} {outerE : List Env}
set_option tactic.hygienic true in
theorem done_err (H : St B s (tsi S :: tsd w S (.ref r) (.int out t3) (.int fin t4) :: n2i S 6 :: nis S np :: sls S succ :: ilst r rdy :: l)) (G : Gd (hd.heap_39 w.params) B.g)
    (hv : IntsAre vs [x]) (hx : (6 ≤ x ∧ x < 100) ∨ ((0 ≤ x ∧ x < 6) ∧ (0 ≤ np x.toNat ∨ np x.toNat = -2))) (hA : A.depth < 900) (hh : A.handled = none) (hF : A.frames = some outerE) (hFl : FrL outerE (tsi S :: tsd w S (.ref r) (.int out t3) (.int fin t4) :: n2i S 6 :: nis S np :: sls S succ :: ilst r rdy :: l))
    (hq : ∀ e t T s', St B s' (excr e (.type "ValueError") (.ref t) (.ref T) :: tbr T .none :: tsi S :: tsd w S (.ref r) (.int out t3) (.int fin t4) :: n2i S 6 :: nis S np :: sls S succ :: ilst r rdy :: l) → R (.error (.ref e)) s') :
    codeAny (model prog w) A (.call (.ref 113) ⟨.ref S.a :: vs, []⟩) R s := by
  refine sl_callV (front := [(Str.ofString "self", .ref S.a)]) (nr := Str.ofString "nodes") (vs := vs) H G (by k_is) (by k_is) (Nat.lt_trans hA (by decide)) (by cases vs <;> rfl) hv (by simp) (fun v => locs rfl) (fun t L s1 H1 => ?_) (by rfl) (by rfl) (by rfl) (by decide)
  generalize hfr : frame L ((Str.ofString "nodes", Value.ref t) :: [(Str.ofString "self", Value.ref S.a)].reverse) = fr at H1
  replace hfr : frame L [(Str.ofString "nodes", Value.ref t), (Str.ofString "self", Value.ref S.a)] = fr := hfr
  subst hfr
  (with_reducible refine wpAny_execs_cons ?_); (with_reducible refine wpAny_If ?_); (with_reducible refine wpAny_isTrue_Compare1 ?_); (with_reducible refine Attribute_any_ ?_); (with_reducible show wpAny _ _ (eval (Expr.Name _ _) (envOf _ _ _ _ _)) _ _ _); refine nm_l (by with_reducible assumption) (by with_reducible exact mem_0) (by rfl) ?_ (by rfl) (by rfl) (by decide); (with_reducible show wpAny _ _ (getAttr (Value.ref _) (Str.ofString "_ready_nodes") _) _ _ _); refine ga_ready (by with_reducible assumption) (by with_reducible assumption) (by with_reducible exact mem_2) (by with_reducible exact mem_3) rfl ?_; intro _ _; (with_reducible refine wpAny_Constant_none ?_); (with_reducible refine is_none ?_); (with_reducible refine wpAny_truthy_bool ?_)
  refine b_ff ?_ (by rfl)
  (with_reducible refine wpAny_execs_nil ?_); dsimp only; (with_reducible refine wpAny_execs_cons ?_); (with_reducible show wpAny _ _ (exec (Stmt.Assign [Expr.Name _ _] _ _) _) _ _ _); refine wpAny_Assign_Name ?_; dsimp only; (with_reducible refine Attribute_any_ ?_); (with_reducible show wpAny _ _ (eval (Expr.Name _ _) (envOf _ _ _ _ _)) _ _ _); refine nm_l (by with_reducible assumption) (by with_reducible exact mem_0) (by rfl) ?_ (by rfl) (by rfl) (by decide); (with_reducible show wpAny _ _ (getAttr (Value.ref _) (Str.ofString "_node2info") _) _ _ _); refine ga_n2i (by with_reducible assumption) (by with_reducible assumption) (by with_reducible exact mem_2) (by with_reducible exact mem_3) rfl ?_; intro _ _; (with_reducible show wpAny _ _ (storeName _ _ _) _ _ _); refine st_l (by with_reducible assumption) (by with_reducible exact rep_0) ?_ (by rfl) (by rfl); intro _ _; (with_reducible refine wpAny_execs_cons ?_); (with_reducible show wpAny _ _ (exec (Stmt.For _ _ _ _ _) _) _ _ _); refine wpAny_For ?_; (with_reducible show wpAny _ _ (eval (Expr.Name _ _) (envOf _ _ _ _ _)) _ _ _); refine nm_l (by with_reducible assumption) (by with_reducible exact mem_0) (by rfl) ?_ (by rfl) (by rfl) (by decide)
  refine iter_itup (by assumption) (by with_reducible exact mem_1) ?_
  intro it s3 H3
  refine for_itup1 (z := x) H3 (by with_reducible exact mem_1) ?_
  intro t1 s4 H4
  have hFl' : ∀ fs, FrL outerE (titer it t 1 :: frame L fs :: itup t [x] :: tsi S :: tsd w S (.ref r) (.int out t3) (.int fin t4) :: n2i S 6 :: nis S np :: sls S succ :: ilst r rdy :: l) := fun fs => hFl.sub fun x hx => by repeat (first | exact hx | apply List.mem_cons_of_mem)
  (with_reducible refine wpAny_assign_Name ?_); dsimp only; (with_reducible show wpAny _ _ (storeName _ _ _) _ _ _); refine st_l (by with_reducible assumption) (by with_reducible exact rep_1) ?_ (by rfl) (by rfl); intro _ _
  refine posts_named fun Q0 E0 hQ0 hE0 => ?_
  rcases hx with hx | ⟨hx, hx2⟩
  · (with_reducible refine wpAny_execs_cons ?_); (with_reducible refine wpAny_If ?_); (with_reducible refine wpAny_isTrue_Compare1 ?_); (with_reducible refine wpAny_NamedExpr ?_); (with_reducible show wpAny _ _ (eval (Expr.Call (Expr.Attribute _ _ _) _ _ _) _) _ _ _); refine MethodCall_ ?_; (with_reducible show wpAny _ _ (eval (Expr.Name _ _) (envOf _ _ _ _ _)) _ _ _); refine nm_l (by with_reducible assumption) (by with_reducible exact mem_1) (by rfl) ?_ (by rfl) (by rfl) (by decide); (with_reducible show wpAny _ _ (getMethod (Value.ref (Lay.n _)) (Str.ofString "get") _) _ _ _); refine gm_n2i (by with_reducible assumption) (by with_reducible exact mem_5) F.slot_dict_get (by kernel_rfl) ?_; dsimp only; (with_reducible show wpAny _ _ (callWith _ (Value.builtin _) _ (backTo _ (starEach (_ :: _) _)) _) _ _ _); refine cw_mach ?_ (by rfl) (by rfl) (by rfl) (by rfl); (with_reducible show wpAny _ _ (spliced (backTo _ (starEach (_ :: _) _))) _ _ _); refine wpAny_items_cons ?_; (with_reducible show wpAny _ _ (eval (Expr.Name _ _) (envOf _ _ _ _ _)) _ _ _); refine nm_l (by with_reducible assumption) (by with_reducible exact mem_1) (by rfl) ?_ (by rfl) (by rfl) (by decide); (with_reducible show wpAny _ _ (spliced (backTo _ (starEach [] _))) _ _ _); refine wpAny_items_nil ?_
    refine miss_n2i (by with_reducible assumption) (by with_reducible exact mem_5) (by (first | lia | omega)) ?_
    intro s5 H5
    (with_reducible refine wpAny_assign_Name ?_); (with_reducible show wpAny _ _ (storeName _ _ _) _ _ _); refine st_l (by with_reducible assumption) (by with_reducible exact rep_1) ?_ (by rfl) (by rfl); intro _ _; (with_reducible refine wpAny_Constant_none ?_); (with_reducible refine is_none ?_); (with_reducible refine wpAny_truthy_bool ?_)
    rename_i s6 H6
    refine wpAny_execs_cons (raise_node (x := x) (B := B) hh H6 (fun _ H h => nm_b (v := .type "ValueError") H G (by k_is) (by rfl) h (by decide) (by rfl) (by rfl) (by decide)) (fun _ H h => nm_l H (by with_reducible exact mem_1) (by rfl) h (by rfl) (by rfl) (by decide)) (by (first | lia | omega)) (by (first | lia | omega)) (by decide) (by decide) fun e t0 s9 H9 => ?_)
    subst hE0
    refine loop_leaves (L := L) (Around.frames_deeper hF) (by show ScopeKind.function ≠ ScopeKind.module; decide) rfl (hFl' _) (.tail _ (.head _)) H9 ?_
    intro T s10 H10
    exact hq e t0 T _ (H10.sub (by exact sub_of [true, true, false, false, false] rfl))
  · obtain ⟨hx0, hx6⟩ := hx
    rcases hx2 with hx2 | hx2
    · (with_reducible refine wpAny_execs_cons ?_); (with_reducible refine wpAny_If ?_); (with_reducible refine wpAny_isTrue_Compare1 ?_); (with_reducible refine wpAny_NamedExpr ?_); (with_reducible show wpAny _ _ (eval (Expr.Call (Expr.Attribute _ _ _) _ _ _) _) _ _ _); refine MethodCall_ ?_; (with_reducible show wpAny _ _ (eval (Expr.Name _ _) (envOf _ _ _ _ _)) _ _ _); refine nm_l (by with_reducible assumption) (by with_reducible exact mem_1) (by rfl) ?_ (by rfl) (by rfl) (by decide); (with_reducible show wpAny _ _ (getMethod (Value.ref (Lay.n _)) (Str.ofString "get") _) _ _ _); refine gm_n2i (by with_reducible assumption) (by with_reducible exact mem_5) F.slot_dict_get (by kernel_rfl) ?_; dsimp only; (with_reducible show wpAny _ _ (callWith _ (Value.builtin _) _ (backTo _ (starEach (_ :: _) _)) _) _ _ _); refine cw_mach ?_ (by rfl) (by rfl) (by rfl) (by rfl); (with_reducible show wpAny _ _ (spliced (backTo _ (starEach (_ :: _) _))) _ _ _); refine wpAny_items_cons ?_; (with_reducible show wpAny _ _ (eval (Expr.Name _ _) (envOf _ _ _ _ _)) _ _ _); refine nm_l (by with_reducible assumption) (by with_reducible exact mem_1) (by rfl) ?_ (by rfl) (by rfl) (by decide); (with_reducible show wpAny _ _ (spliced (backTo _ (starEach [] _))) _ _ _); refine wpAny_items_nil ?_; (with_reducible show wpAny _ _ (call (Value.builtin "dict.get") _) _ _ _); refine call_get_n2i (by with_reducible assumption) (by with_reducible exact mem_5) (by with_reducible assumption) (by (first | lia | omega)) ?_; intro _ _; (with_reducible refine wpAny_assign_Name ?_); (with_reducible show wpAny _ _ (storeName _ _ _) _ _ _); refine st_l (by with_reducible assumption) (by with_reducible exact rep_1) ?_ (by rfl) (by rfl); intro _ _; (with_reducible refine wpAny_Constant_none ?_); (with_reducible refine is_none ?_); (with_reducible refine wpAny_truthy_bool ?_); ((with_reducible show (ite _ _ _ : Prop)); (refine b_ff ?_ (by ((with_reducible show (Value.ref _ == Value.none) = false); rfl)))); (with_reducible refine wpAny_execs_nil ?_); dsimp only; (with_reducible refine wpAny_execs_cons ?_); (with_reducible show wpAny _ _ (exec (Stmt.Assign [Expr.Name _ _] _ _) _) _ _ _); refine wpAny_Assign_Name ?_; dsimp only; (with_reducible refine Attribute_any_ ?_); (with_reducible show wpAny _ _ (eval (Expr.Name _ _) (envOf _ _ _ _ _)) _ _ _); refine nm_l (by with_reducible assumption) (by with_reducible exact mem_1) (by rfl) ?_ (by rfl) (by rfl) (by decide); (with_reducible show wpAny _ _ (getAttr (Value.ref _) (Str.ofString "npredecessors") _) _ _ _); refine ga_np (by with_reducible assumption) (by with_reducible assumption) (by with_reducible exact mem_6) (by with_reducible exact lt6_nat (by with_reducible assumption) (by with_reducible assumption)) ?_; intro _ _ _; (with_reducible show wpAny _ _ (storeName _ _ _) _ _ _); refine st_l (by with_reducible assumption) (by with_reducible exact rep_1) ?_ (by rfl) (by rfl); intro _ _; (with_reducible refine wpAny_execs_cons ?_); (with_reducible refine wpAny_If ?_); (with_reducible refine wpAny_isTrue_Compare1 ?_); (with_reducible show wpAny _ _ (eval (Expr.Name _ _) (envOf _ _ _ _ _)) _ _ _); refine nm_l (by with_reducible assumption) (by with_reducible exact mem_1) (by rfl) ?_ (by rfl) (by rfl) (by decide); (with_reducible show wpAny _ _ (eval (Expr.Name _ _) (envOf _ _ _ _ _)) _ _ _); refine nm_g (by with_reducible assumption) (by with_reducible assumption) (by k_is) ?_ (by rfl) (by rfl) (by decide); (with_reducible refine PyProof.Rows.ne_int ?_); (with_reducible refine wpAny_truthy_bool ?_)
      refine b_tt ?_ (by simp; (first | lia | omega))
      (with_reducible refine wpAny_execs_cons ?_); (with_reducible refine wpAny_If ?_); (with_reducible refine wpAny_isTrue_Compare1 ?_); (with_reducible show wpAny _ _ (eval (Expr.Name _ _) (envOf _ _ _ _ _)) _ _ _); refine nm_l (by with_reducible assumption) (by with_reducible exact mem_1) (by rfl) ?_ (by rfl) (by rfl) (by decide); (with_reducible show wpAny _ _ (eval (Expr.Constant (Const.int _) _ _) _) _ _ _); refine const_int (by with_reducible assumption) ?_; intro _ _ _; (with_reducible refine PyProof.Rows.ge_int ?_); (with_reducible refine wpAny_truthy_bool ?_)
      refine b_tt ?_ (by simp; (first | lia | omega))
      rename_i s6 H6
      refine wpAny_execs_cons (raise_node (x := x) (B := B) hh H6 (fun _ H h => nm_b (v := .type "ValueError") H G (by k_is) (by rfl) h (by decide) (by rfl) (by rfl) (by decide)) (fun _ H h => nm_l H (by with_reducible exact mem_1) (by rfl) h (by rfl) (by rfl) (by decide)) (by (first | lia | omega)) (by (first | lia | omega)) (by decide) (by decide) fun e t0 s9 H9 => ?_)
      subst hE0
      refine loop_leaves (L := L) (Around.frames_deeper hF) (by show ScopeKind.function ≠ ScopeKind.module; decide) rfl (hFl' _) (.tail _ (.head _)) H9 ?_
      intro T s10 H10
      exact hq e t0 T _ (H10.sub (by exact sub_of [true, true, false, false, false] rfl))
    · (with_reducible refine wpAny_execs_cons ?_); (with_reducible refine wpAny_If ?_); (with_reducible refine wpAny_isTrue_Compare1 ?_); (with_reducible refine wpAny_NamedExpr ?_); (with_reducible show wpAny _ _ (eval (Expr.Call (Expr.Attribute _ _ _) _ _ _) _) _ _ _); refine MethodCall_ ?_; (with_reducible show wpAny _ _ (eval (Expr.Name _ _) (envOf _ _ _ _ _)) _ _ _); refine nm_l (by with_reducible assumption) (by with_reducible exact mem_1) (by rfl) ?_ (by rfl) (by rfl) (by decide); (with_reducible show wpAny _ _ (getMethod (Value.ref (Lay.n _)) (Str.ofString "get") _) _ _ _); refine gm_n2i (by with_reducible assumption) (by with_reducible exact mem_5) F.slot_dict_get (by kernel_rfl) ?_; dsimp only; (with_reducible show wpAny _ _ (callWith _ (Value.builtin _) _ (backTo _ (starEach (_ :: _) _)) _) _ _ _); refine cw_mach ?_ (by rfl) (by rfl) (by rfl) (by rfl); (with_reducible show wpAny _ _ (spliced (backTo _ (starEach (_ :: _) _))) _ _ _); refine wpAny_items_cons ?_; (with_reducible show wpAny _ _ (eval (Expr.Name _ _) (envOf _ _ _ _ _)) _ _ _); refine nm_l (by with_reducible assumption) (by with_reducible exact mem_1) (by rfl) ?_ (by rfl) (by rfl) (by decide); (with_reducible show wpAny _ _ (spliced (backTo _ (starEach [] _))) _ _ _); refine wpAny_items_nil ?_; (with_reducible show wpAny _ _ (call (Value.builtin "dict.get") _) _ _ _); refine call_get_n2i (by with_reducible assumption) (by with_reducible exact mem_5) (by with_reducible assumption) (by (first | lia | omega)) ?_; intro _ _; (with_reducible refine wpAny_assign_Name ?_); (with_reducible show wpAny _ _ (storeName _ _ _) _ _ _); refine st_l (by with_reducible assumption) (by with_reducible exact rep_1) ?_ (by rfl) (by rfl); intro _ _; (with_reducible refine wpAny_Constant_none ?_); (with_reducible refine is_none ?_); (with_reducible refine wpAny_truthy_bool ?_); ((with_reducible show (ite _ _ _ : Prop)); (refine b_ff ?_ (by ((with_reducible show (Value.ref _ == Value.none) = false); rfl)))); (with_reducible refine wpAny_execs_nil ?_); dsimp only; (with_reducible refine wpAny_execs_cons ?_); (with_reducible show wpAny _ _ (exec (Stmt.Assign [Expr.Name _ _] _ _) _) _ _ _); refine wpAny_Assign_Name ?_; dsimp only; (with_reducible refine Attribute_any_ ?_); (with_reducible show wpAny _ _ (eval (Expr.Name _ _) (envOf _ _ _ _ _)) _ _ _); refine nm_l (by with_reducible assumption) (by with_reducible exact mem_1) (by rfl) ?_ (by rfl) (by rfl) (by decide); (with_reducible show wpAny _ _ (getAttr (Value.ref _) (Str.ofString "npredecessors") _) _ _ _); refine ga_np (by with_reducible assumption) (by with_reducible assumption) (by with_reducible exact mem_6) (by with_reducible exact lt6_nat (by with_reducible assumption) (by with_reducible assumption)) ?_; intro _ _ _; (with_reducible show wpAny _ _ (storeName _ _ _) _ _ _); refine st_l (by with_reducible assumption) (by with_reducible exact rep_1) ?_ (by rfl) (by rfl); intro _ _; (with_reducible refine wpAny_execs_cons ?_); (with_reducible refine wpAny_If ?_); (with_reducible refine wpAny_isTrue_Compare1 ?_); (with_reducible show wpAny _ _ (eval (Expr.Name _ _) (envOf _ _ _ _ _)) _ _ _); refine nm_l (by with_reducible assumption) (by with_reducible exact mem_1) (by rfl) ?_ (by rfl) (by rfl) (by decide); (with_reducible show wpAny _ _ (eval (Expr.Name _ _) (envOf _ _ _ _ _)) _ _ _); refine nm_g (by with_reducible assumption) (by with_reducible assumption) (by k_is) ?_ (by rfl) (by rfl) (by decide); (with_reducible refine PyProof.Rows.ne_int ?_); (with_reducible refine wpAny_truthy_bool ?_)
      refine b_tt ?_ (by rw [hx2]; rfl)
      (with_reducible refine wpAny_execs_cons ?_); (with_reducible refine wpAny_If ?_); (with_reducible refine wpAny_isTrue_Compare1 ?_); (with_reducible show wpAny _ _ (eval (Expr.Name _ _) (envOf _ _ _ _ _)) _ _ _); refine nm_l (by with_reducible assumption) (by with_reducible exact mem_1) (by rfl) ?_ (by rfl) (by rfl) (by decide); (with_reducible show wpAny _ _ (eval (Expr.Constant (Const.int _) _ _) _) _ _ _); refine const_int (by with_reducible assumption) ?_; intro _ _ _; (with_reducible refine PyProof.Rows.ge_int ?_); (with_reducible refine wpAny_truthy_bool ?_)
      refine b_ff ?_ (by rw [hx2]; rfl)
      (with_reducible refine wpAny_execs_cons ?_); (with_reducible refine wpAny_If ?_); (with_reducible refine wpAny_isTrue_Compare1 ?_); (with_reducible show wpAny _ _ (eval (Expr.Name _ _) (envOf _ _ _ _ _)) _ _ _); refine nm_l (by with_reducible assumption) (by with_reducible exact mem_1) (by rfl) ?_ (by rfl) (by rfl) (by decide); (with_reducible show wpAny _ _ (eval (Expr.Name _ _) (envOf _ _ _ _ _)) _ _ _); refine nm_g (by with_reducible assumption) (by with_reducible assumption) (by k_is) ?_ (by rfl) (by rfl) (by decide); (with_reducible refine PyProof.Rows.eq_int ?_); (with_reducible refine wpAny_truthy_bool ?_)
      refine b_tt ?_ (by rw [hx2]; rfl)
      rename_i s6 H6
      refine wpAny_execs_cons (raise_node (x := x) (B := B) hh H6 (fun _ H h => nm_b (v := .type "ValueError") H G (by k_is) (by rfl) h (by decide) (by rfl) (by rfl) (by decide)) (fun _ H h => nm_l H (by with_reducible exact mem_1) (by rfl) h (by rfl) (by rfl) (by decide)) (by (first | lia | omega)) (by (first | lia | omega)) (by decide) (by decide) fun e t0 s9 H9 => ?_)
      subst hE0
      refine loop_leaves (L := L) (Around.frames_deeper hF) (by show ScopeKind.function ≠ ScopeKind.module; decide) rfl (hFl' _) (.tail _ (.head _)) H9 ?_
      intro T s10 H10
      exact hq e t0 T _ (H10.sub (by exact sub_of [true, true, false, false, false] rfl))
end
end
section
open PySem PySem.W PyProof.Rows PySem.Calls PySem.Spec
section
variable {prog : Program} {w : World} {A : Around} {s : Shared} {B : Bs} {l : List Reg} {R : Result → Shared → Prop} {f c : Addr} {q : Str} {params : Arguments} {body : Expr} {scope : Scope} {clos : List (Str × Addr)} {outerE : List Env}
set_option tactic.hygienic true in
theorem refused_ok (H : St B s l) (G : Gd (hd.heap_39 w.params) B.g) (hlam : lamr f q params body scope clos c ∈ l) (hA : A.depth < 890) (hh : A.handled = none) (hF : A.frames = some outerE) (hFl : FrL outerE l)
    (hcall : ∀ (A' : Around) outerE' L s1, A'.depth = A.depth + 1 → A'.handled = none → A'.frames = some outerE' → FrL outerE' (frame L [(Str.ofString "what", .ref f)] :: l) → St B s1 (frame L [(Str.ofString "what", .ref f)] :: l) →
      codeAny (model prog w) A' (.call (.ref f) ⟨[], []⟩) (fun r s' => ∃ e t T, r = .error (.ref e) ∧ St B s' (excr e (.type "ValueError") (.ref t) (.ref T) :: tbr T .none :: frame L [(Str.ofString "what", .ref f)] :: l)) s1)
    (hq : ∀ s', St B s' l → R (.ok (.ret (.bool true))) s') :
    codeAny (model prog w) A (.call (.ref 141) ⟨[.ref f], []⟩) R s := by
  refine sl_call (binds := [(Str.ofString "what", .ref f)]) (fs := [(Str.ofString "what", .ref f)]) H G (by k_is) (by k_is) (Nat.lt_trans hA (by decide)) (BindsTo.of_eq rfl) (locs rfl) rfl (fun L s1 H1 => ?_) (by rfl) (by rfl) (by rfl) (by decide)
  refine wpAny_execs_cons (wpAny_Try_except ?_)
  (with_reducible refine wpAny_execs_cons ?_); (with_reducible show wpAny _ _ (exec (Stmt.Expr _ _) _) _ _ _); refine wpAny_Expr_any ?_; dsimp only; (with_reducible show wpAny _ _ (eval (Expr.Call (Expr.Name _ _) _ _ _) _) _ _ _); refine wpAny_Call_ofName ?_; (with_reducible show wpAny _ _ (eval (Expr.Name _ _) (envOf _ _ _ _ _)) _ _ _); refine nm_l (by with_reducible assumption) (by with_reducible exact mem_0) (by rfl) ?_ (by rfl) (by rfl) (by decide)
  refine cw_lam (f := f) H1 (.tail _ hlam) ?_ (by rfl)
  refine wpAny_call (codeAny_mono (hcall _ _ L _ rfl hh (Around.frames_deeper hF) (FrL.cons (L := L) (by show ScopeKind.function ≠ ScopeKind.module; decide) rfl (.head _) (hFl.sub fun x hx => .tail _ hx)) H1) ?_)
  rintro r s2 ⟨e, t, T, rfl, H2⟩
  dsimp only
  refine note_next (L := L) (Around.frames_deeper hF) (FrL.cons (L := L) (by show ScopeKind.function ≠ ScopeKind.module; decide) rfl (.tail _ (.tail _ (.head _))) (hFl.sub fun x hx => .tail _ (.tail _ (.tail _ hx)))) rfl H2 .here (.tail _ (.head _)) ?_
  intro T' s3 H3
  refine flight_none H3 (by with_reducible exact mem_0) (.there .here) ?_
  intro s4 H4
  refine wpAny_handleBy_builtin (X := "ValueError") (T := "ValueError") (b := true) (by rw [isSubtype_type]; kernel_rfl) (by kernel_rfl) (by rw [isSubtype_type]; kernel_rfl) ?_
  (with_reducible show wpAny _ _ (eval (Expr.Name _ _) (envOf _ _ _ _ _)) _ _ _); refine nm_b (v := .type "ValueError") (by with_reducible assumption) (by with_reducible assumption) (by k_is) (by rfl) ?_ (by decide) (by rfl) (by rfl) (by decide)
  refine ⟨rfl, ?_, ?_⟩
  · obtain ⟨o, ho, hc, _⟩ := H4.head
    exact ⟨o, ho, hc⟩
  refine b_tt ?_ (by rfl)
  refine flight_none H4 (by with_reducible exact mem_0) (by with_reducible exact rep_1) ?_
  intro s5 H5
  (with_reducible refine wpAny_execs_cons ?_); (with_reducible refine wpAny_Return_some ?_); dsimp only; (with_reducible refine wpAny_Constant_bool ?_)
  exact hq _ (H5.sub (by exact sub_of [false, false, false, false] rfl))
end
end
section
open PySem PySem.W PyProof.Rows PySem.Calls PySem.Spec
section
variable {w : World} {A : Around} {s : Shared} {B : Bs} {l : List Reg} {mg : Str → Option Value} {L fa : Addr} {fs : List (Str × Value)} {Q : Flow → Shared → Prop}
set_option tactic.hygienic true in
theorem stage0 (X : LawAt w A B mg L fa) (H : St B s (frame L fs :: cel1 L none :: l))
    (h : ∀ T s', St B s' (outer T :: sls T (fun _ => []) :: frame L fs :: cel1 L (some (.ref T.a)) :: l) → Q .next s') :
    wpAny (model PySem.Challenge.pw_xc0002_01 w) A (exec (lawS 0) (lawE L fa)) Q (fun _ _ => False) s := by
  have e : lawS 0 = lawS 0 := rfl
  conv at e => rhs; whnf
  rw [e]; clear e
  have G := X.G
  have hh := X.hh
  (with_reducible show wpAny _ _ (exec (Stmt.Assign [Expr.Name _ _] _ _) _) _ _ _); refine wpAny_Assign_Name ?_
  refine comp_eval ?_ (by rfl) (by rfl) (by decide) (by intro _; rfl)
  (with_reducible show wpAny _ _ (eval (Expr.Call (Expr.Name _ _) _ _ _) _) _ _ _); refine wpAny_Call_ofName ?_; (with_reducible show wpAny _ _ (eval (Expr.Name _ _) (envOfC _ _ _ _ _)) _ _ _); refine nmC_b (v := .type "range") (by with_reducible assumption) (by with_reducible assumption) (by k_is) (by rfl) ?_ (by decide) (by rfl) (by rfl) (by decide); (with_reducible show wpAny _ _ (callWith _ (Value.type _) _ (backTo _ (starEach (_ :: _) _)) _) _ _ _); refine cw_mach ?_ (by rfl) (by rfl) (by rfl) (by rfl); (with_reducible show wpAny _ _ (spliced (backTo _ (starEach (_ :: _) _))) _ _ _); refine wpAny_items_cons ?_; (with_reducible show wpAny _ _ (eval (Expr.Constant (Const.int _) _ _) _) _ _ _); refine const_int (by with_reducible assumption) ?_; intro _ _ _; (with_reducible show wpAny _ _ (spliced (backTo _ (starEach [] _))) _ _ _); refine wpAny_items_nil ?_; (with_reducible show wpAny _ _ (call (Value.type "range") ([] ++ [Value.int _ _])) _ _ _); refine call_rng1 (by with_reducible assumption) ?_; intro _ _ _
  rename_i r s2 H2
  refine iter_rng (n := 6) H2 (.head _) (by (first | lia | omega)) (by (first | lia | omega)) (by (first | lia | omega)) ?_
  intro it s3 H3
  refine comp_done (B := B) (itr_range (a := 0) (n := 6) hh) (fun i l₁ vs => i ≤ 6 ∧ ∃ T : Lay, l₁ = many i (sl T fun _ => []) :: frame L fs :: cel1 L none :: l ∧ vs = (List.range i).map fun k => Value.ref (T.s k))
    (l := many 0 (sl ⟨0, 0, 0, fun _ => 0, fun _ => 0, fun _ => 0⟩ fun _ => []) :: frame L fs :: cel1 L none :: l) ?_ ⟨by (first | lia | omega), ⟨0, 0, 0, fun _ => 0, fun _ => 0, fun _ => 0⟩, rfl, rfl⟩ ?_ ?_ ?_ ?_ (by decide) (by rfl) (by rfl)
  · refine St.perm (l := star [] :: riter it 0 6 0 :: frame L fs :: cel1 L none :: l) ?_ (by rw [many_zero]; exact .swap ..)
    exact (H3.sub (by exact sub_of [true, false] rfl)).star0
  · rintro i l₁ vs _ C D₀ fs
    trivial
  · rintro i l₁ vs ⟨hi, T, rfl, rfl⟩
    simp; (first | lia | omega)
  · rintro C D₀ i v l₁ vs s₁ hi ⟨t, rfl⟩ ⟨_, T, rfl, rfl⟩ H6
    refine wpAny_tests_nil ?_
    rw [if_pos rfl]
    (with_reducible show wpAny _ _ (eval (Expr.List _ _) _) _ _ _); refine List_ ?_; (with_reducible show wpAny _ _ (spliced (backTo _ (starEach [] _))) _ _ _); refine wpAny_items_nil ?_; (with_reducible show wpAny _ _ (newList []) _ _ _); refine newlist_ints (by with_reducible assumption) .nil (by (simp_all; done)) ?_; intro _ _ _
    rename_i q s7 H7
    have e1 : many i (sl T fun _ => []) = many i (sl { T with s := fun k => if k = i then q else T.s k } fun _ => []) := many_congr fun j hj => by
      unfold sl; dsimp only; rw [if_neg (Nat.ne_of_lt hj)]
    have e2 : ilst q [] = sl { T with s := fun k => if k = i then q else T.s k } (fun _ => []) i := by unfold sl; dsimp only; rw [if_pos rfl]
    refine ⟨_, ⟨by (first | lia | omega), { T with s := fun k => if k = i then q else T.s k }, rfl, ?_⟩, ?_⟩
    · rw [List.range_succ, List.map_append]
      congr 1
      · refine List.map_congr_left fun k hk => ?_
        have := List.mem_range.mp hk
        dsimp only; rw [if_neg (by (first | lia | omega))]
      · simp
    · rw [e1, e2] at H7
      have H8 := St.perm H7 (l' := many i (sl { T with s := fun k => if k = i then q else T.s k } fun _ => []) :: sl { T with s := fun k => if k = i then q else T.s k } (fun _ => []) i :: frame C [(Str.ofString "thing", .int (0 + i) t)] :: vlst D₀ ((List.range i).map fun k => Value.ref (T.s k)) :: riter it 0 6 (i + 1) :: frame L fs :: cel1 L none :: l) (by exact permP_perm [4] _)
      exact St.perm H8.join (by exact permP_perm [1, 1, 1] _)
  · rintro D₀ l₁ vs s₁ ⟨_, T, rfl, rfl⟩ H6
    have H7 : St B s₁ (outer { T with a := D₀ } :: many 6 (sl { T with a := D₀ } fun _ => []) :: frame L fs :: cel1 L none :: l) := H6
    clear H6
    (with_reducible show wpAny _ _ (storeName (envOfC _ _ _ _ _) _ _) _ _ _); refine stC_c (by with_reducible assumption) (by rfl) (by with_reducible exact rep_3) ?_ (by rfl) (by rfl); intro _ _
    exact h { T with a := D₀ } _ (by with_reducible assumption)
end
end
section
open PySem PySem.W PyProof.Rows PySem.Calls PySem.Spec
section
variable {w : World} {A : Around} {s : Shared} {B : Bs} {l : List Reg} {mg : Str → Option Value} {L fa r : Addr} {vs : List Value} {xs : List Int} {Q : Flow → Shared → Prop}
set_option tactic.hygienic true in
theorem stage1 (X : LawAt w A B mg L fa) (hl : B.g.IsList r vs.toArray) (hv : IntsAre vs xs) (hz : xs.length ≤ 63) (H : St B s (frame L [(Str.ofString "script", .ref r)] :: l))
    (h : ∀ b s', St B s' (frame L [(Str.ofString "upward", .bool b), (Str.ofString "script", .ref r)] :: l) → Q .next s') :
    wpAny (model PySem.Challenge.pw_xc0002_01 w) A (exec (lawS 1) (lawE L fa)) Q (fun _ _ => False) s := by
  have e : lawS 1 = lawS 1 := rfl
  conv at e => rhs; whnf
  rw [e]; clear e
  have G := X.G
  have hh := X.hh
  (with_reducible show wpAny _ _ (exec (Stmt.Assign [Expr.Name _ _] _ _) _) _ _ _); refine wpAny_Assign_Name ?_; (with_reducible refine wpAny_Compare1 ?_); (with_reducible refine wpAny_BinOp ?_); (with_reducible refine wpAny_BinOp ?_); (with_reducible show wpAny _ _ (eval (Expr.Call (Expr.Name _ _) _ _ _) _) _ _ _); refine wpAny_Call_ofName ?_; (with_reducible show wpAny _ _ (eval (Expr.Name _ _) (envOfC _ _ _ _ _)) _ _ _); refine nmC_b (v := .builtin "sum") (by with_reducible assumption) (by with_reducible assumption) (by k_is) (by rfl) ?_ (by decide) (by rfl) (by rfl) (by decide); (with_reducible show wpAny _ _ (callWith _ (Value.builtin _) _ (backTo _ (starEach (_ :: _) _)) _) _ _ _); refine cw_mach ?_ (by rfl) (by rfl) (by rfl) (by rfl); (with_reducible show wpAny _ _ (spliced (backTo _ (starEach (_ :: _) _))) _ _ _); refine wpAny_items_cons ?_; (with_reducible show wpAny _ _ (eval (Expr.Subscript _ (Expr.Slice none (some _) none _) _) _) _ _ _); refine slice_to ?_ (by intro _ _; rfl); (with_reducible show wpAny _ _ (eval (Expr.Name _ _) (envOfC _ _ _ _ _)) _ _ _); refine nmC_l (by with_reducible assumption) (by with_reducible exact mem_0) (by rfl) ?_ (by rfl) (by rfl) (by decide); (with_reducible show wpAny _ _ (eval (Expr.Constant (Const.int _) _ _) _) _ _ _); refine const_int (by with_reducible assumption) ?_; intro _ _ _
  rename_i s2 H2
  refine ⟨B, _, r, vs, xs, 1, _, rfl, rfl, H2, (let ⟨o, ho, r⟩ := hl; ⟨o, H2.keep _ _ ho, r⟩), hv, by (first | lia | omega), by (first | lia | omega), ?_⟩
  intro q s3 H3
  (with_reducible show wpAny _ _ (spliced (backTo _ (starEach [] _))) _ _ _); refine wpAny_items_nil ?_
  refine sum_ilst hh H3 (.head _) ?_
  intro z tz s4 H4
  (with_reducible show wpAny _ _ (eval (Expr.Constant (Const.int _) _ _) _) _ _ _); refine const_int (by with_reducible assumption) ?_; intro _ _ _; (with_reducible show wpAny _ _ (binaryOp Operator.FloorDiv (Value.int _ _) (Value.int 6 _)) _ _ _); refine fdiv6 (by with_reducible assumption) ?_; intro _ _ _; (with_reducible show wpAny _ _ (eval (Expr.Constant (Const.int _) _ _) _) _ _ _); refine const_int (by with_reducible assumption) ?_; intro _ _ _; (with_reducible show wpAny _ _ (binaryOp Operator.Mod (Value.int _ _) (Value.int _ _)) _ _ _); refine fmod_ (by with_reducible assumption) (by decide) ?_; intro _ _ _; (with_reducible show wpAny _ _ (eval (Expr.Constant (Const.int _) _ _) _) _ _ _); refine const_int (by with_reducible assumption) ?_; intro _ _ _; (with_reducible refine PyProof.Rows.gt_int ?_); (with_reducible show wpAny _ _ (storeName (envOfC _ _ _ _ _) _ _) _ _ _); refine stC_l (by with_reducible assumption) (by with_reducible exact rep_1) ?_ (by rfl) (by rfl); intro _ _
  exact h _ _ (St.sub (by with_reducible assumption) (by exact sub_of [false] rfl))
structure NOk (needs : Nat → List Int) : Prop where
  rng : ∀ k, ∀ x ∈ needs k, 0 ≤ x ∧ x < 6
  nd : ∀ k, (needs k).Nodup
theorem NOk.len {needs : Nat → List Int} (h : NOk needs) (k : Nat) : (needs k).length ≤ 6 := nodup_len 6 _ (h.nd k) (h.rng k)
set_option tactic.hygienic true in
theorem NOk.add {needs : Nat → List Int} (h : NOk needs) {k : Nat} {x : Int} (hx : 0 ≤ x ∧ x < 6) (hn : x ∉ needs k) : NOk (fun j => if j = k then needs j ++ [x] else needs j) := by
  refine ⟨fun j y hy => ?_, fun j => ?_⟩
  · split at hy
    · rcases List.mem_append.mp hy with q | q
      · exact h.rng j y q
      · rw [List.mem_singleton.mp q]; exact hx
    · exact h.rng j y hy
  · split
    · rename_i e; subst e
      refine List.nodup_append.mpr ⟨h.nd _, by simp, fun a ha b hb e => ?_⟩
      rw [List.mem_singleton.mp hb] at e; subst e; exact hn ha
    · exact h.nd j
theorem fmod6 (a : Int) : 0 ≤ a.fmod 6 ∧ a.fmod 6 < 6 := ⟨Int.fmod_nonneg_of_pos a (by decide), Int.fmod_lt_of_pos a (by decide)⟩
set_option tactic.hygienic true in
theorem stage2 {T : Lay} {b : Bool} (X : LawAt w A B mg L fa) (hl : B.g.IsList r vs.toArray) (hv : IntsAre vs xs) (hz : xs.length ≤ 63)
    (H : St B s (outer T :: sls T (fun _ => []) :: frame L [(Str.ofString "upward", .bool b), (Str.ofString "script", .ref r)] :: cel1 L (some (.ref T.a)) :: l))
    (h : ∀ needs s', NOk needs → St B s' (outer T :: sls T needs :: frame L [] :: cel1 L (some (.ref T.a)) :: l) → Q .next s') :
    wpAny (model PySem.Challenge.pw_xc0002_01 w) A (exec (lawS 2) (lawE L fa)) Q (fun _ _ => False) s := by
  have e : lawS 2 = lawS 2 := rfl
  conv at e => rhs; whnf
  rw [e]; clear e
  have G := X.G
  have hh := X.hh
  (with_reducible show wpAny _ _ (exec (Stmt.For _ _ _ _ _) _) _ _ _); refine wpAny_For ?_; (with_reducible show wpAny _ _ (eval (Expr.Subscript _ (Expr.Slice none (some _) none _) _) _) _ _ _); refine slice_to ?_ (by intro _ _; rfl); (with_reducible show wpAny _ _ (eval (Expr.Name _ _) (envOfC _ _ _ _ _)) _ _ _); refine nmC_l (by with_reducible assumption) (by with_reducible exact mem_2) (by rfl) ?_ (by rfl) (by rfl) (by decide); (with_reducible show wpAny _ _ (eval (Expr.Constant (Const.int _) _ _) _) _ _ _); refine const_int (by with_reducible assumption) ?_; intro _ _ _
  rename_i s2 H2
  refine ⟨B, _, r, vs, xs, 14, _, rfl, rfl, H2, (let ⟨o, ho, r⟩ := hl; ⟨o, H2.keep _ _ ho, r⟩), hv, by (first | lia | omega), by (first | lia | omega), ?_⟩
  intro q s3 H3
  refine iter_ilst H3 (.head _) ?_
  intro it s4 H4
  obtain ⟨I0, hI0⟩ : ∃ I0 : Nat → List Reg → Prop, I0 = (fun i l₁ => ∃ needs, NOk needs ∧ l₁ = ilst q (xs.take (Int.toNat 14)) :: outer T :: sls T needs :: frame L [(Str.ofString "upward", .bool b), (Str.ofString "script", .ref r)] :: cel1 L (some (.ref T.a)) :: l) := ⟨_, rfl⟩
  refine for_ilst (I := I0)
    hh H4 (by rw [hI0]; exact ⟨_, ⟨fun k x h => absurd h List.not_mem_nil, fun _ => List.Pairwise.nil⟩, rfl⟩) (fun i l₁ h => by rw [hI0] at h; obtain ⟨_, _, rfl⟩ := h; exact .head _) ?_ ?_
  · rintro i t l₁ s₁ hi hI H5
    rw [hI0] at hI
    obtain ⟨needs, hn, rfl⟩ := hI
    generalize (xs.take (Int.toNat 14))[i] = x
    (with_reducible refine wpAny_assign_Name ?_); dsimp only; (with_reducible show wpAny _ _ (storeName (envOfC _ _ _ _ _) _ _) _ _ _); refine stC_l (by with_reducible assumption) (by with_reducible exact rep_4) ?_ (by rfl) (by rfl); intro _ _
    refine posts_named fun Q0 E0 hQ0 hE0 => ?_
    (with_reducible refine wpAny_execs_cons ?_)
    refine Assign_pair hh ?_ (by rfl) (by rfl) (by rfl) (by rfl)
    (with_reducible refine wpAny_BinOp ?_); (with_reducible show wpAny _ _ (eval (Expr.Name _ _) (envOfC _ _ _ _ _)) _ _ _); refine nmC_l (by with_reducible assumption) (by with_reducible exact mem_4) (by rfl) ?_ (by rfl) (by rfl) (by decide); (with_reducible show wpAny _ _ (eval (Expr.Constant (Const.int _) _ _) _) _ _ _); refine const_int (by with_reducible assumption) ?_; intro _ _ _; (with_reducible show wpAny _ _ (binaryOp Operator.Mod (Value.int _ _) (Value.int _ _)) _ _ _); refine fmod_ (by with_reducible assumption) (by decide) ?_; intro _ _ _; (with_reducible refine wpAny_BinOp ?_); (with_reducible refine wpAny_BinOp ?_); (with_reducible show wpAny _ _ (eval (Expr.Name _ _) (envOfC _ _ _ _ _)) _ _ _); refine nmC_l (by with_reducible assumption) (by with_reducible exact mem_4) (by rfl) ?_ (by rfl) (by rfl) (by decide); (with_reducible show wpAny _ _ (eval (Expr.Constant (Const.int _) _ _) _) _ _ _); refine const_int (by with_reducible assumption) ?_; intro _ _ _; (with_reducible show wpAny _ _ (binaryOp Operator.FloorDiv (Value.int _ _) (Value.int 6 _)) _ _ _); refine fdiv6 (by with_reducible assumption) ?_; intro _ _ _; (with_reducible show wpAny _ _ (eval (Expr.Constant (Const.int _) _ _) _) _ _ _); refine const_int (by with_reducible assumption) ?_; intro _ _ _; (with_reducible show wpAny _ _ (binaryOp Operator.Mod (Value.int _ _) (Value.int _ _)) _ _ _); refine fmod_ (by with_reducible assumption) (by decide) ?_; intro _ _ _
    refine ⟨B, _, _, _, _, _, rfl, rfl, by with_reducible assumption, fun t2 u2 s6 H6 => ?_⟩
    have ho := fmod6 x
    have ht := fmod6 (x.fdiv 6)
    generalize x.fmod 6 = one at *
    generalize (x.fdiv 6).fmod 6 = oth at *
    (with_reducible show wpAny _ _ (storeName (envOfC _ _ _ _ _) _ _) _ _ _); refine stC_l (by with_reducible assumption) (by with_reducible exact rep_4) ?_ (by rfl) (by rfl); intro _ _; dsimp only; (with_reducible show wpAny _ _ (storeName (envOfC _ _ _ _ _) _ _) _ _ _); refine stC_l (by with_reducible assumption) (by with_reducible exact rep_4) ?_ (by rfl) (by rfl); intro _ _
    obtain ⟨J, hJ⟩ : ∃ J : Shared → Prop, J = (fun s' => ∃ one oth t u, (0 ≤ one ∧ one < 6) ∧ (0 ≤ oth ∧ oth < 6) ∧ St B s' (liter it q (i + 1) :: ilst q (xs.take (Int.toNat 14)) :: outer T :: sls T needs :: frame L [(Str.ofString "other", .int oth u), (Str.ofString "one", .int one t), (Str.ofString "upward", .bool b), (Str.ofString "script", .ref r)] :: cel1 L (some (.ref T.a)) :: l)) := ⟨_, rfl⟩
    refine execs_mid (J := J) ?_ ?_
    · (with_reducible refine wpAny_If ?_); (with_reducible show wpAny _ _ (isTrue _ _ _) _ _ _); refine wpAny_isTrue_value ?_; (with_reducible show wpAny _ _ (eval (Expr.Name _ _) (envOfC _ _ _ _ _)) _ _ _); refine nmC_l (by with_reducible assumption) (by with_reducible exact mem_4) (by rfl) ?_ (by rfl) (by rfl) (by decide); (with_reducible refine wpAny_truthy_bool ?_)
      refine b_split (fun hb => ?_) (fun hb => ?_)
      · (with_reducible refine wpAny_execs_cons ?_)
        refine Assign_pair hh ?_ (by rfl) (by rfl) (by rfl) (by rfl)
        (with_reducible show wpAny _ _ (eval (Expr.Call (Expr.Name _ _) _ _ _) _) _ _ _); refine wpAny_Call_ofName ?_; (with_reducible show wpAny _ _ (eval (Expr.Name _ _) (envOfC _ _ _ _ _)) _ _ _); refine nmC_b (v := .builtin "max") (by with_reducible assumption) (by with_reducible assumption) (by k_is) (by rfl) ?_ (by decide) (by rfl) (by rfl) (by decide); (with_reducible show wpAny _ _ (callWith _ (Value.builtin _) _ (backTo _ (starEach (_ :: _) _)) _) _ _ _); refine cw_mach ?_ (by rfl) (by rfl) (by rfl) (by rfl); (with_reducible show wpAny _ _ (spliced (backTo _ (starEach (_ :: _) _))) _ _ _); refine wpAny_items_cons ?_; (with_reducible show wpAny _ _ (eval (Expr.Name _ _) (envOfC _ _ _ _ _)) _ _ _); refine nmC_l (by with_reducible assumption) (by with_reducible exact mem_4) (by rfl) ?_ (by rfl) (by rfl) (by decide); (with_reducible show wpAny _ _ (spliced (backTo _ (starEach (_ :: _) _))) _ _ _); refine wpAny_items_cons ?_; (with_reducible show wpAny _ _ (eval (Expr.Name _ _) (envOfC _ _ _ _ _)) _ _ _); refine nmC_l (by with_reducible assumption) (by with_reducible exact mem_4) (by rfl) ?_ (by rfl) (by rfl) (by decide); (with_reducible show wpAny _ _ (spliced (backTo _ (starEach [] _))) _ _ _); refine wpAny_items_nil ?_
        refine max2 hh (by with_reducible assumption) ?_
        intro t7 s8 H8
        (with_reducible show wpAny _ _ (eval (Expr.Call (Expr.Name _ _) _ _ _) _) _ _ _); refine wpAny_Call_ofName ?_; (with_reducible show wpAny _ _ (eval (Expr.Name _ _) (envOfC _ _ _ _ _)) _ _ _); refine nmC_b (v := .builtin "min") (by with_reducible assumption) (by with_reducible assumption) (by k_is) (by rfl) ?_ (by decide) (by rfl) (by rfl) (by decide); (with_reducible show wpAny _ _ (callWith _ (Value.builtin _) _ (backTo _ (starEach (_ :: _) _)) _) _ _ _); refine cw_mach ?_ (by rfl) (by rfl) (by rfl) (by rfl); (with_reducible show wpAny _ _ (spliced (backTo _ (starEach (_ :: _) _))) _ _ _); refine wpAny_items_cons ?_; (with_reducible show wpAny _ _ (eval (Expr.Name _ _) (envOfC _ _ _ _ _)) _ _ _); refine nmC_l (by with_reducible assumption) (by with_reducible exact mem_4) (by rfl) ?_ (by rfl) (by rfl) (by decide); (with_reducible show wpAny _ _ (spliced (backTo _ (starEach (_ :: _) _))) _ _ _); refine wpAny_items_cons ?_; (with_reducible show wpAny _ _ (eval (Expr.Name _ _) (envOfC _ _ _ _ _)) _ _ _); refine nmC_l (by with_reducible assumption) (by with_reducible exact mem_4) (by rfl) ?_ (by rfl) (by rfl) (by decide); (with_reducible show wpAny _ _ (spliced (backTo _ (starEach [] _))) _ _ _); refine wpAny_items_nil ?_
        refine min2 hh (by with_reducible assumption) ?_
        intro t9 s10 H10
        refine ⟨B, _, _, _, _, _, rfl, rfl, by with_reducible assumption, fun t2 u2 s6 H6 => ?_⟩
        (with_reducible show wpAny _ _ (storeName (envOfC _ _ _ _ _) _ _) _ _ _); refine stC_l (by with_reducible assumption) (by with_reducible exact rep_4) ?_ (by rfl) (by rfl); intro _ _; dsimp only; (with_reducible show wpAny _ _ (storeName (envOfC _ _ _ _ _) _ _) _ _ _); refine stC_l (by with_reducible assumption) (by with_reducible exact rep_4) ?_ (by rfl) (by rfl); intro _ _; (with_reducible refine wpAny_execs_nil ?_); dsimp only
        have ho2 : 0 ≤ (if oth > one then oth else one) ∧ (if oth > one then oth else one) < 6 := by split <;> assumption
        have ht2 : 0 ≤ (if oth < one then oth else one) ∧ (if oth < one then oth else one) < 6 := by split <;> assumption
        rw [hJ]
        exact ⟨_, _, _, _, ho2, ht2, St.reframe (by with_reducible assumption) (by with_reducible exact rep_4) (by exact Framed.of rfl)⟩
      · (with_reducible refine wpAny_execs_nil ?_); dsimp only
        rw [hJ]
        exact ⟨_, _, _, _, ho, ht, St.reframe (by with_reducible assumption) (by with_reducible exact rep_4) (by exact Framed.of rfl)⟩
    · clear ho ht H6
      intro s₂ hJ'
      rw [hJ] at hJ'
      obtain ⟨one, oth, t, u, ho, ht, H6⟩ := hJ'
      (with_reducible refine wpAny_execs_cons ?_); (with_reducible refine wpAny_If ?_)
      refine post_named fun Q1 hQ1 => ?_
      have hF : ∀ s', St B s' (liter it q (i + 1) :: ilst q (xs.take (Int.toNat 14)) :: outer T :: sls T needs :: frame L [(Str.ofString "other", .int oth u), (Str.ofString "one", .int one t), (Str.ofString "upward", .bool b), (Str.ofString "script", .ref r)] :: cel1 L (some (.ref T.a)) :: l) → Q1 false s' := by
        intro s' H7
        subst hQ1
        try dsimp only
        (with_reducible show (ite _ _ _ : Prop)); refine b_ff ?_ (by with_reducible rfl); (with_reducible refine wpAny_execs_nil ?_); dsimp only; (with_reducible refine wpAny_execs_nil ?_)
        subst hQ0
        exact ⟨_, by rw [hI0]; exact ⟨_, hn, rfl⟩, St.reframe H7 (by with_reducible exact rep_4) (by exact Framed.of rfl)⟩
      have hT : ¬ oth ∈ needs one.toNat → ∀ s', St B s' (liter it q (i + 1) :: ilst q (xs.take (Int.toNat 14)) :: outer T :: sls T needs :: frame L [(Str.ofString "other", .int oth u), (Str.ofString "one", .int one t), (Str.ofString "upward", .bool b), (Str.ofString "script", .ref r)] :: cel1 L (some (.ref T.a)) :: l) → Q1 true s' := by
        intro hc s' H7
        subst hQ1
        try dsimp only
        (with_reducible show (ite _ _ _ : Prop)); refine b_tt ?_ (by with_reducible rfl); (with_reducible refine wpAny_execs_cons ?_); (with_reducible show wpAny _ _ (exec (Stmt.Expr _ _) _) _ _ _); refine wpAny_Expr_any ?_; dsimp only; (with_reducible show wpAny _ _ (eval (Expr.Call (Expr.Attribute _ _ _) _ _ _) _) _ _ _); refine MethodCall_ ?_; (with_reducible refine Subscript_ ?_); (with_reducible show wpAny _ _ (eval (Expr.Name _ _) (envOfC _ _ _ _ _)) _ _ _); refine nmC_c (by with_reducible assumption) (by rfl) (by with_reducible exact mem_5) ?_ (by rfl) (by rfl) (by decide); (with_reducible show wpAny _ _ (eval (Expr.Name _ _) (envOfC _ _ _ _ _)) _ _ _); refine nmC_l (by with_reducible assumption) (by with_reducible exact mem_4) (by rfl) ?_ (by rfl) (by rfl) (by decide); (with_reducible show wpAny _ _ (subscriptTail _ _ (Value.ref (Lay.a _)) (Value.int _ _)) _ _ _); refine sub_outer (by with_reducible assumption) (by with_reducible exact mem_2) (by (first | lia | omega)) (by (first | lia | omega)) ?_ (by with_unfolding_all rfl); intro _ _
        refine gm_sl (k := one.toNat) (S := T) (by with_reducible assumption) (by with_reducible exact mem_3) (by (first | lia | omega)) F.slot_list_append (by kernel_rfl) ?_
        (with_reducible show wpAny _ _ (callWith _ (Value.builtin _) _ (backTo _ (starEach (_ :: _) _)) _) _ _ _); refine cw_mach ?_ (by rfl) (by rfl) (by rfl) (by rfl); dsimp only; (with_reducible show wpAny _ _ (spliced (backTo _ (starEach (_ :: _) _))) _ _ _); refine wpAny_items_cons ?_; (with_reducible show wpAny _ _ (eval (Expr.Name _ _) (envOfC _ _ _ _ _)) _ _ _); refine nmC_l (by with_reducible assumption) (by with_reducible exact mem_4) (by rfl) ?_ (by rfl) (by rfl) (by decide); (with_reducible show wpAny _ _ (spliced (backTo _ (starEach [] _))) _ _ _); refine wpAny_items_nil ?_
        refine append_sl (k := one.toNat) (S := T) (succ' := fun j => if j = one.toNat then needs j ++ [oth] else needs j) (by with_reducible assumption) (by with_reducible exact rep_3) (by (first | lia | omega)) (by have := hn.len one.toNat; (first | lia | omega)) (if_pos rfl) (fun j hj => if_neg hj) ?_
        intro s9 H9
        (with_reducible refine wpAny_execs_nil ?_); dsimp only; (with_reducible refine wpAny_execs_nil ?_)
        subst hQ0
        exact ⟨_, by rw [hI0]; exact ⟨_, hn.add (by with_reducible assumption) hc, rfl⟩, St.reframe H9 (by with_reducible exact rep_4) (by exact Framed.of rfl)⟩
      (with_reducible refine wpAny_isTrue_BoolOp ?_); (with_reducible refine wpAny_allTrue_And_cons ?_); (with_reducible refine wpAny_isTrue_Compare1 ?_); (with_reducible show wpAny _ _ (eval (Expr.Name _ _) (envOfC _ _ _ _ _)) _ _ _); refine nmC_l (by with_reducible assumption) (by with_reducible exact mem_4) (by rfl) ?_ (by rfl) (by rfl) (by decide); (with_reducible refine Subscript_ ?_); (with_reducible show wpAny _ _ (eval (Expr.Name _ _) (envOfC _ _ _ _ _)) _ _ _); refine nmC_c (by with_reducible assumption) (by rfl) (by with_reducible exact mem_5) ?_ (by rfl) (by rfl) (by decide); (with_reducible show wpAny _ _ (eval (Expr.Name _ _) (envOfC _ _ _ _ _)) _ _ _); refine nmC_l (by with_reducible assumption) (by with_reducible exact mem_4) (by rfl) ?_ (by rfl) (by rfl) (by decide); (with_reducible show wpAny _ _ (subscriptTail _ _ (Value.ref (Lay.a _)) (Value.int _ _)) _ _ _); refine sub_outer (by with_reducible assumption) (by with_reducible exact mem_2) (by (first | lia | omega)) (by (first | lia | omega)) ?_ (by with_unfolding_all rfl); intro _ _; (with_reducible show wpAny _ _ (compareOp CmpOp.NotIn (Value.int _ _) (Value.ref (Lay.s _ _))) _ _ _); refine notin_sl (by with_reducible assumption) (by with_reducible exact mem_3) (by (first | lia | omega)) ?_; intro _ _; (with_reducible refine wpAny_truthy_bool ?_)
      refine b_split (fun hc => ?_) (fun hc => ?_)
      · have hT := hT (by simpa using hc)
        (with_reducible refine wpAny_allTrue_And_cons ?_); (with_reducible refine wpAny_isTrue_BoolOp ?_); (with_reducible refine wpAny_allTrue_Or_cons ?_); (with_reducible refine wpAny_isTrue_Compare1 ?_); (with_reducible show wpAny _ _ (eval (Expr.Name _ _) (envOfC _ _ _ _ _)) _ _ _); refine nmC_l (by with_reducible assumption) (by with_reducible exact mem_4) (by rfl) ?_ (by rfl) (by rfl) (by decide); (with_reducible show wpAny _ _ (eval (Expr.Name _ _) (envOfC _ _ _ _ _)) _ _ _); refine nmC_l (by with_reducible assumption) (by with_reducible exact mem_4) (by rfl) ?_ (by rfl) (by rfl) (by decide); (with_reducible refine PyProof.Rows.ne_int ?_); (with_reducible refine wpAny_truthy_bool ?_)
        refine b_split (fun hd => ?_) (fun hd => ?_)
        · (with_reducible show (ite _ _ _ : Prop)); refine b_tt ?_ (by with_reducible rfl); (with_reducible refine wpAny_allTrue_And_nil ?_)
          exact hT _ (by with_reducible assumption)
        · (with_reducible refine wpAny_allTrue_Or_cons ?_); (with_reducible refine wpAny_isTrue_Not ?_); (with_reducible show wpAny _ _ (isTrue _ _ _) _ _ _); refine wpAny_isTrue_value ?_; (with_reducible show wpAny _ _ (eval (Expr.Name _ _) (envOfC _ _ _ _ _)) _ _ _); refine nmC_l (by with_reducible assumption) (by with_reducible exact mem_4) (by rfl) ?_ (by rfl) (by rfl) (by decide); (with_reducible refine wpAny_truthy_bool ?_)
          refine b_split (fun hb => ?_) (fun hb => ?_)
          · (with_reducible show (ite _ _ _ : Prop)); refine b_tt ?_ (by with_reducible rfl); (with_reducible refine wpAny_allTrue_And_nil ?_)
            exact hT _ (by with_reducible assumption)
          · (with_reducible refine wpAny_allTrue_Or_nil ?_); (with_reducible show (ite _ _ _ : Prop)); refine b_ff ?_ (by with_reducible rfl)
            exact hF _ (by with_reducible assumption)
      · skip
        exact hF _ (by with_reducible assumption)
  · rintro l₁ s₁ hI H5
    rw [hI0] at hI
    obtain ⟨needs, hn, rfl⟩ := hI
    exact h needs _ hn (St.reframe H5.tail (by with_reducible exact rep_2) (by exact Framed.of rfl))
end
end
section
open PySem PySem.W PyProof.Rows PySem.Calls PySem.Spec
section
variable {w : World} {A : Around} {s : Shared} {B : Bs} {l : List Reg} {mg : Str → Option Value} {L fa r : Addr} {fs : List (Str × Value)} {needs : Nat → List Int} {T : Lay} {Q : Flow → Shared → Prop}
noncomputable def deepL (needs : Nat → List Int) (n : Nat) : List Int := (List.range n).map fun (k : Nat) => deepF needs 7 (k : Int) []
set_option tactic.hygienic true in
theorem stage3 (X : LawAt w A B mg L fa) (hn : NOk needs)
    (H : St B s (outer T :: sls T needs :: frame L [] :: cel1 L (some (.ref T.a)) :: cel2 L none :: l))
    (h : ∀ D s', St B s' (ilst D (deepL needs 6) :: outer T :: sls T needs :: frame L [] :: cel1 L (some (.ref T.a)) :: cel2 L (some (.ref D)) :: l) → Q .next s') :
    wpAny (model PySem.Challenge.pw_xc0002_01 w) A (exec (lawS 3) (lawE L fa)) Q (fun _ _ => False) s := by
  have e : lawS 3 = lawS 3 := rfl
  conv at e => rhs; whnf
  rw [e]; clear e
  have G := X.G
  have hh := X.hh
  have hdep := X.dep
  (with_reducible show wpAny _ _ (exec (Stmt.Assign [Expr.Name _ _] _ _) _) _ _ _); refine wpAny_Assign_Name ?_
  refine comp_eval ?_ (by rfl) (by rfl) (by decide) (by intro _; rfl)
  (with_reducible show wpAny _ _ (eval (Expr.Call (Expr.Name _ _) _ _ _) _) _ _ _); refine wpAny_Call_ofName ?_; (with_reducible show wpAny _ _ (eval (Expr.Name _ _) (envOfC _ _ _ _ _)) _ _ _); refine nmC_b (v := .type "range") (by with_reducible assumption) (by with_reducible assumption) (by k_is) (by rfl) ?_ (by decide) (by rfl) (by rfl) (by decide); (with_reducible show wpAny _ _ (callWith _ (Value.type _) _ (backTo _ (starEach (_ :: _) _)) _) _ _ _); refine cw_mach ?_ (by rfl) (by rfl) (by rfl) (by rfl); (with_reducible show wpAny _ _ (spliced (backTo _ (starEach (_ :: _) _))) _ _ _); refine wpAny_items_cons ?_; (with_reducible show wpAny _ _ (eval (Expr.Constant (Const.int _) _ _) _) _ _ _); refine const_int (by with_reducible assumption) ?_; intro _ _ _; (with_reducible show wpAny _ _ (spliced (backTo _ (starEach [] _))) _ _ _); refine wpAny_items_nil ?_; (with_reducible show wpAny _ _ (call (Value.type "range") ([] ++ [Value.int _ _])) _ _ _); refine call_rng1 (by with_reducible assumption) ?_; intro _ _ _
  rename_i r s2 H2
  refine iter_rng (n := 6) H2 (.head _) (by (first | lia | omega)) (by (first | lia | omega)) (by (first | lia | omega)) ?_
  intro it s3 H3
  refine comp_done (B := B) (itr_range (a := 0) (n := 6) hh) (fun i l₁ vs => i ≤ 6 ∧ l₁ = outer T :: sls T needs :: frame L [] :: cel1 L (some (.ref T.a)) :: cel2 L none :: l ∧ IntsAre vs (deepL needs i))
    (l := outer T :: sls T needs :: frame L [] :: cel1 L (some (.ref T.a)) :: cel2 L none :: l) (H3.sub (by exact sub_of [true, false] rfl)) ⟨by (first | lia | omega), rfl, .nil⟩ ?_ ?_ ?_ ?_ (by decide) (by rfl) (by rfl)
  · rintro i l₁ vs _ C D₀ fs
    trivial
  · rintro i l₁ vs ⟨hi, rfl, hv⟩
    rw [hv.length]; simp [deepL]; (first | lia | omega)
  · rintro C D₀ i v l₁ vs s₁ hi ⟨t, rfl⟩ ⟨_, rfl, hv⟩ H6
    refine wpAny_tests_nil ?_
    rw [if_pos rfl]
    (with_reducible show wpAny _ _ (eval (Expr.Call (Expr.Name _ _) _ _ _) _) _ _ _); refine wpAny_Call_ofName ?_; (with_reducible show wpAny _ _ (eval (Expr.Name _ _) (compEnvC _ _ _ _)) _ _ _); refine nmK_g (by with_reducible assumption) (by with_reducible assumption) (by k_is) ?_ (by rfl) (by rfl) (by rfl) (by decide); (with_reducible show wpAny _ _ (callWith _ (Value.ref _) _ (backTo _ (starEach (_ :: _) _)) _) _ _ _); refine cw_fn (by with_reducible assumption) (by k_is) ?_ (by rfl) (by rfl) (by rfl); (with_reducible show wpAny _ _ (spliced (backTo _ (starEach (_ :: _) _))) _ _ _); refine wpAny_items_cons ?_; (with_reducible show wpAny _ _ (eval (Expr.Name _ _) (compEnvC _ _ _ _)) _ _ _); refine nmK_c (by with_reducible assumption) (by rfl) (by with_reducible exact mem_6) ?_ (by rfl) (by rfl) (by decide); (with_reducible show wpAny _ _ (spliced (backTo _ (starEach (_ :: _) _))) _ _ _); refine wpAny_items_cons ?_; (with_reducible show wpAny _ _ (eval (Expr.Name _ _) (compEnvC _ _ _ _)) _ _ _); refine nmK_l (by with_reducible assumption) (by with_reducible exact mem_0) (by rfl) ?_ (by rfl) (by rfl) (by decide); (with_reducible show wpAny _ _ (spliced (backTo _ (starEach (_ :: _) _))) _ _ _); refine wpAny_items_cons ?_; (with_reducible show wpAny _ _ (eval (Expr.List _ _) _) _ _ _); refine List_ ?_; (with_reducible show wpAny _ _ (spliced (backTo _ (starEach [] _))) _ _ _); refine wpAny_items_nil ?_; (with_reducible show wpAny _ _ (newList []) _ _ _); refine newlist_ints (by with_reducible assumption) .nil (by (simp_all; done)) ?_; intro _ _ _; (with_reducible show wpAny _ _ (spliced (backTo _ (starEach [] _))) _ _ _); refine wpAny_items_nil ?_; (with_reducible show Frag.In _ _ ∧ wpAny _ _ _ _ _ _); refine ⟨St.kin (by with_reducible assumption) (by with_reducible assumption), ?_⟩
    rename_i q s7 H7
    refine wpAny_call (law_deep_ok (T := T) (needs := needs) G (fun j _ => hn.rng j) (fun k => by have := hn.len k; (first | lia | omega)) 7 (0 + i) [] q t _ _ (frame C [(Str.ofString "thing", .int (0 + i) t)] :: vlst D₀ vs :: riter it 0 6 (i + 1) :: frame L [] :: cel1 L (some (.ref T.a)) :: cel2 L none :: l) _ (by simp) List.nodup_nil (fun _ h => absurd h List.not_mem_nil) (by (first | lia | omega)) (by (first | lia | omega)) (by (first | lia | omega)) hh (St.perm H7 (by exact permP_perm [4, 4] _)) ?_)
    intro t' s8 H8
    dsimp only
    refine ⟨_, ⟨by (first | lia | omega), rfl, ?_⟩, St.sub (St.perm H8 (l' := ilst q [] :: frame C [(Str.ofString "thing", .int (0 + i) t)] :: vlst D₀ vs :: riter it 0 6 (i + 1) :: outer T :: sls T needs :: frame L [] :: cel1 L (some (.ref T.a)) :: cel2 L none :: l) (by exact permP_perm [2, 2, 2, 2] _)) (by exact sub_of [false] rfl)⟩
    unfold deepL
    rw [List.range_succ, List.map_append]
    refine ints_append hv ?_
    rw [Int.zero_add]
    exact .cons _ _ .nil
  · rintro D₀ l₁ vs s₁ ⟨_, rfl, hv⟩ H6
    have H7 := vlst_ints H6 hv
    clear H6
    (with_reducible show wpAny _ _ (storeName (envOfC _ _ _ _ _) _ _) _ _ _); refine stC_c (by with_reducible assumption) (by rfl) (by with_reducible exact rep_5) ?_ (by rfl) (by rfl); intro _ _
    exact h D₀ _ (by with_reducible assumption)
end
end
section
open PySem PySem.W PyProof.Rows PySem.Calls PySem.Spec
section
variable {w : World} {A : Around} {s : Shared} {B : Bs} {l : List Reg} {mg : Str → Option Value} {L fa r D : Addr} {fs : List (Str × Value)} {needs : Nat → List Int} {T : Lay} {Q : Flow → Shared → Prop}
set_option tactic.hygienic true in
theorem stage4 (X : LawAt w A B mg L fa) (hn : NOk needs)
    (H : St B s (outer T :: sls T needs :: frame L [] :: cel1 L (some (.ref T.a)) :: cel7 L none :: l))
    (h : ∀ S t3 t4 s', St B s' (tsi S :: tsd w S .none (.int 0 t3) (.int 0 t4) :: n2i S 6 :: nis S ((built needs).1) :: sls S ((built needs).2) :: outer T :: sls T needs :: frame L [] :: cel1 L (some (.ref T.a)) :: cel7 L (some (.ref S.a)) :: l) → Q .next s') :
    wpAny (model PySem.Challenge.pw_xc0002_01 w) A (exec (lawS 4) (lawE L fa)) Q (fun _ _ => False) s := by
  have e : lawS 4 = lawS 4 := rfl
  conv at e => rhs; whnf
  rw [e]; clear e
  have G := X.G
  have hh := X.hh
  have hdep := X.dep
  (with_reducible show wpAny _ _ (exec (Stmt.Assign [Expr.Name _ _] _ _) _) _ _ _); refine wpAny_Assign_Name ?_; (with_reducible show wpAny _ _ (eval (Expr.Call (Expr.Name _ _) _ _ _) _) _ _ _); refine wpAny_Call_ofName ?_; (with_reducible show wpAny _ _ (eval (Expr.Name _ _) (envOfC _ _ _ _ _)) _ _ _); refine nmC_g (by with_reducible assumption) (by with_reducible assumption) (by k_is) ?_ (by rfl) (by rfl) (by decide); (with_reducible show wpAny _ _ (callWith _ (Value.ref _) _ (backTo _ (starEach (_ :: _) _)) _) _ _ _); refine cw_fn (by with_reducible assumption) (by k_is) ?_ (by rfl) (by rfl) (by rfl); (with_reducible show wpAny _ _ (spliced (backTo _ (starEach (_ :: _) _))) _ _ _); refine wpAny_items_cons ?_; (with_reducible show wpAny _ _ (eval (Expr.Name _ _) (envOfC _ _ _ _ _)) _ _ _); refine nmC_c (by with_reducible assumption) (by rfl) (by with_reducible exact mem_3) ?_ (by rfl) (by rfl) (by decide); (with_reducible show wpAny _ _ (spliced (backTo _ (starEach [] _))) _ _ _); refine wpAny_items_nil ?_; (with_reducible show Frag.In _ _ ∧ wpAny _ _ _ _ _ _); refine ⟨St.kin (by with_reducible assumption) (by with_reducible assumption), ?_⟩
  refine wpAny_call (law_sorter_ok (T := T) (needs := needs) H G (fun j _ => hn.rng j) (by ((with_reducible refine Nat.lt_trans (by with_reducible assumption) ?_); exact Nat.le_of_ble_eq_true rfl)) hh (fun k => by have := hn.len k; (first | lia | omega)) ?_)
  intro S t3 t4 s2 H2
  dsimp only
  (with_reducible show wpAny _ _ (storeName (envOfC _ _ _ _ _) _ _) _ _ _); refine stC_c (by with_reducible assumption) (by rfl) (by with_reducible exact rep_9) ?_ (by rfl) (by rfl); intro _ _
  exact h S t3 t4 _ (by with_reducible assumption)
set_option tactic.hygienic true in
theorem stage5t {S : Lay} {t3 t4 : Nat} (X : LawAt w A B mg L fa) (hn : NOk needs) (h0 : 0 ∈ deepL needs 6) (hac : ¬ Acyc (built needs).2) (hbl : ∀ k, ((built needs).2 k).length ≤ 10)
    (H : St B s (tsi S :: tsd w S .none (.int 0 t3) (.int 0 t4) :: n2i S 6 :: nis S ((built needs).1) :: sls S ((built needs).2) :: outer T :: sls T needs :: ilst D (deepL needs 6) :: frame L [] :: cel1 L (some (.ref T.a)) :: cel2 L (some (.ref D)) :: cel7 L (some (.ref S.a)) :: l))
    (h : ∀ s', St B s' l → Q (.ret (.bool true)) s') :
    wpAny (model PySem.Challenge.pw_xc0002_01 w) A (exec (lawS 5) (lawE L fa)) Q (fun _ _ => False) s := by
  have e : lawS 5 = lawS 5 := rfl
  conv at e => rhs; whnf
  rw [e]; clear e
  have G := X.G
  have hh := X.hh
  have hdep := X.dep
  (with_reducible refine wpAny_If ?_); (with_reducible refine wpAny_isTrue_Compare1 ?_); (with_reducible show wpAny _ _ (eval (Expr.Constant (Const.int _) _ _) _) _ _ _); refine const_int (by with_reducible assumption) ?_; intro _ _ _; (with_reducible show wpAny _ _ (eval (Expr.Name _ _) (envOfC _ _ _ _ _)) _ _ _); refine nmC_c (by with_reducible assumption) (by rfl) (by (refine List.mem_cons_of_mem _ ?_; with_reducible exact mem_9)) ?_ (by rfl) (by rfl) (by decide); (with_reducible show wpAny _ _ (compareOp CmpOp.In (Value.int _ _) (Value.ref _)) _ _ _); refine in_ilst (by with_reducible assumption) (by with_reducible exact mem_7) ?_; intro _ _; (with_reducible refine wpAny_truthy_bool ?_)
  refine b_tt ?_ (decide_eq_true h0)
  refine wpAny_execs_cons (wpAny_Try_except ?_)
  (with_reducible refine wpAny_execs_cons ?_); (with_reducible show wpAny _ _ (exec (Stmt.Expr _ _) _) _ _ _); refine wpAny_Expr_any ?_; dsimp only; (with_reducible show wpAny _ _ (eval (Expr.Call (Expr.Attribute _ _ _) _ _ _) _) _ _ _); refine MethodCall_ ?_; (with_reducible show wpAny _ _ (eval (Expr.Name _ _) (envOfC _ _ _ _ _)) _ _ _); refine nmC_c (by with_reducible assumption) (by rfl) (by (refine List.mem_cons_of_mem _ ?_; refine List.mem_cons_of_mem _ ?_; with_reducible exact mem_9)) ?_ (by rfl) (by rfl) (by decide)
  refine gm_ts (f := 85) (by with_reducible assumption) (by with_reducible assumption) (by with_reducible exact mem_0) (by with_reducible exact mem_1) (by k_is) (by k_is) (by k_is) (fun _ _ _ _ _ => rfl) ?_
  (with_reducible show wpAny _ _ (callWith _ (Value.ref _) _ (backTo _ (starEach [] _)) _) _ _ _); refine cw_fn0 (by with_reducible assumption) (by with_reducible assumption) (by k_is) ?_ (by rfl); dsimp only
  rename_i s2 H2
  refine wpAny_call (prepare_ok (np := (built needs).1) (succ := (built needs).2) (l := outer T :: sls T needs :: ilst D (deepL needs 6) :: frame L [] :: cel1 L (some (.ref T.a)) :: cel2 L (some (.ref D)) :: cel7 L (some (.ref S.a)) :: l) H2 G hbl ?_ (by ((with_reducible refine Nat.lt_trans (by with_reducible assumption) ?_); exact Nat.le_of_ble_eq_true rfl)) hh X.fr (law_frl (by with_reducible exact mem_3)) ?_ ?_)
  · intro k x hx
    obtain ⟨j, hj, rfl, _⟩ := (built_mem x k).mp hx
    (first | lia | omega)
  · intro r s3 hA
    exact absurd hA hac
  · intro e t x tk q T' ring s3 hring H3
    dsimp only
    refine note_next (L := L) X.fr (law_frl (by with_reducible exact mem_7)) rfl H3 .here (.tail _ (.head _)) ?_
    intro T2 s4 H4
    refine flight_none H4 (by with_reducible exact mem_0) (.there .here) ?_
    intro s5 H5
    refine catch_own_as ?_
    (with_reducible show wpAny _ _ (eval (Expr.Name _ _) (envOfC _ _ _ _ _)) _ _ _); refine nmC_g (by with_reducible assumption) (by with_reducible assumption) (by k_is) ?_ (by rfl) (by rfl) (by decide)
    refine ⟨rfl, ⟨B, _, _, _, H5, G, .head _⟩, ?_⟩
    refine flight_none H5 (by with_reducible exact mem_0) (by with_reducible exact rep_1) ?_
    intro s6 H6
    (with_reducible show wpAny _ _ (storeName (envOfC _ _ _ _ _) _ _) _ _ _); refine stC_l (by with_reducible assumption) (by with_reducible exact rep_8) ?_ (by rfl) (by rfl); intro _ _; (with_reducible refine wpAny_execs_cons ?_); (with_reducible refine wpAny_Return_some ?_); dsimp only; (with_reducible show wpAny _ _ (eval (Expr.Call (Expr.Name _ _) _ _ _) _) _ _ _); refine wpAny_Call_ofName ?_; (with_reducible show wpAny _ _ (eval (Expr.Name _ _) (envOfC _ _ _ _ _)) _ _ _); refine nmC_g (by with_reducible assumption) (by with_reducible assumption) (by k_is) ?_ (by rfl) (by rfl) (by decide); (with_reducible show wpAny _ _ (callWith _ (Value.ref _) _ (backTo _ (starEach (_ :: _) _)) _) _ _ _); refine cw_fn (by with_reducible assumption) (by k_is) ?_ (by rfl) (by rfl) (by rfl); (with_reducible show wpAny _ _ (spliced (backTo _ (starEach (_ :: _) _))) _ _ _); refine wpAny_items_cons ?_; (with_reducible show wpAny _ _ (eval (Expr.Name _ _) (envOfC _ _ _ _ _)) _ _ _); refine nmC_c (by with_reducible assumption) (by rfl) (by with_reducible exact mem_9) ?_ (by rfl) (by rfl) (by decide); (with_reducible show wpAny _ _ (spliced (backTo _ (starEach (_ :: _) _))) _ _ _); refine wpAny_items_cons ?_; (with_reducible show wpAny _ _ (eval (Expr.Call (Expr.Name _ _) _ _ _) _) _ _ _); refine wpAny_Call_ofName ?_; (with_reducible show wpAny _ _ (eval (Expr.Name _ _) (envOfC _ _ _ _ _)) _ _ _); refine nmC_b (v := .type "list") (by with_reducible assumption) (by with_reducible assumption) (by k_is) (by rfl) ?_ (by decide) (by rfl) (by rfl) (by decide); (with_reducible show wpAny _ _ (callWith _ (Value.type _) _ (backTo _ (starEach (_ :: _) _)) _) _ _ _); refine cw_mach ?_ (by rfl) (by rfl) (by rfl) (by rfl); (with_reducible show wpAny _ _ (spliced (backTo _ (starEach (_ :: _) _))) _ _ _); refine wpAny_items_cons ?_; (with_reducible refine Subscript_ ?_); (with_reducible refine Attribute_any_ ?_); (with_reducible show wpAny _ _ (eval (Expr.Name _ _) (envOfC _ _ _ _ _)) _ _ _); refine nmC_l (by with_reducible assumption) (by with_reducible exact mem_8) (by rfl) ?_ (by rfl) (by rfl) (by decide)
    rename_i H7
    refine ga_args H7 G (.head _) ?_
    intro s8 H8
    (with_reducible show wpAny _ _ (eval (Expr.Constant (Const.int _) _ _) _) _ _ _); refine const_int (by with_reducible assumption) ?_; intro _ _ _
    rename_i H9
    refine sub_vtup H9 (by with_reducible exact mem_3) (by (first | lia | omega)) (by (first | lia | omega)) (j := 1) rfl rfl ?_ (by with_unfolding_all rfl)
    (with_reducible show wpAny _ _ (spliced (backTo _ (starEach [] _))) _ _ _); refine wpAny_items_nil ?_
    have hrf := ring_fits (fun j _ => hn.rng j) hring
    have h7 := hrf.seven
    refine list_ilst (by with_reducible assumption) (by with_reducible exact mem_4) (by ((with_reducible refine Nat.le_trans (by with_reducible assumption) ?_); exact Nat.le_of_ble_eq_true rfl)) ?_
    intro q2 s11 H11
    (with_reducible show wpAny _ _ (spliced (backTo _ (starEach [] _))) _ _ _); refine wpAny_items_nil ?_; (with_reducible show Frag.In _ _ ∧ wpAny _ _ _ _ _ _); refine ⟨St.kin (by with_reducible assumption) (by with_reducible assumption), ?_⟩
    refine wpAny_call (ring_good_ok (T := T) (needs := needs) (q := q2) (ring := ring) (h := e) (cls := .ref 48) (a0 := .ref t) (tb := .ref T2) (l := excr e (.ref 48) (.ref t) (.ref T2) :: frame L [(Str.ofString "e", .ref e)] :: l) (St.sub (St.perm (by with_reducible assumption) (l' := outer T :: sls T needs :: ilst q2 ring :: excr e (.ref 48) (.ref t) (.ref T2) :: frame L [(Str.ofString "e", .ref e)] :: tbr T2 .none :: tbr T' .none :: vtup t [.str x tk, .ref q] :: ilst q ring :: ilst D (deepL needs 6) :: cel1 L (some (.ref T.a)) :: cel2 L (some (.ref D)) :: cel7 L (some (.ref S.a)) :: l) (by exact permP_perm [6, 6, 0, 0, 5] _)) ?_) G hrf (by show A.depth < 870; (first | lia | omega)) X.un rfl (.head _) ?_)
    · exact sub_of [true, true, true, true, true, false, false, false, false, false, false, false, false] rfl
    · intro s12 H12
      dsimp only
      refine name_goes H12 (.there .here) rfl rfl rfl ?_
      intro s13 H13
      exact h _ (H13.sub (by exact sub_of [false, false] rfl))
end
end
section
open PySem PySem.W PyProof.Rows PySem.Calls PySem.Spec
theorem LawAt.to {w : World} {A : Around} {B B' : Bs} {mg : Str → Option Value} {L fa : Addr} (X : LawAt w A B mg L fa) (e : B'.g = B.g) : LawAt w A B' mg L fa :=
  ⟨e ▸ X.G, X.dep, X.hh, X.un, X.fr, e ▸ X.ln⟩
section
variable {w : World} {A : Around} {s : Shared} {B : Bs} {l : List Reg} {mg : Str → Option Value} {L fa r D : Addr} {fs : List (Str × Value)} {needs : Nat → List Int} {T : Lay} {Q : Flow → Shared → Prop}
set_option tactic.hygienic true in
theorem stage5f (X : LawAt w A B mg L fa) (h0 : 0 ∉ deepL needs 6)
    (H : St B s (ilst D (deepL needs 6) :: frame L [] :: cel2 L (some (.ref D)) :: l))
    (h : ∀ s', St B s' (ilst D (deepL needs 6) :: frame L [] :: cel2 L (some (.ref D)) :: l) → Q .next s') :
    wpAny (model PySem.Challenge.pw_xc0002_01 w) A (exec (lawS 5) (lawE L fa)) Q (fun _ _ => False) s := by
  have e : lawS 5 = lawS 5 := rfl
  conv at e => rhs; whnf
  rw [e]; clear e
  have G := X.G
  (with_reducible refine wpAny_If ?_); (with_reducible refine wpAny_isTrue_Compare1 ?_); (with_reducible show wpAny _ _ (eval (Expr.Constant (Const.int _) _ _) _) _ _ _); refine const_int (by with_reducible assumption) ?_; intro _ _ _; (with_reducible show wpAny _ _ (eval (Expr.Name _ _) (envOfC _ _ _ _ _)) _ _ _); refine nmC_c (by with_reducible assumption) (by rfl) (by with_reducible exact mem_2) ?_ (by rfl) (by rfl) (by decide); (with_reducible show wpAny _ _ (compareOp CmpOp.In (Value.int _ _) (Value.ref _)) _ _ _); refine in_ilst (by with_reducible assumption) (by with_reducible exact mem_0) ?_; intro _ _; (with_reducible refine wpAny_truthy_bool ?_)
  refine b_ff ?_ (decide_eq_false h0)
  (with_reducible refine wpAny_execs_nil ?_)
  exact h _ (by with_reducible assumption)
set_option tactic.hygienic true in
theorem stage6 {out : List Int} (X : LawAt w A B mg L fa) (hn : NOk needs) (hbl : ∀ k, ((built needs).2 k).length ≤ 10) (hno : ∀ ring, ¬ IsRing (built needs).2 ring) (hkr : Kr (built needs).2 (built needs).1 (free (built needs).1 6) out) (hol : out.length ≤ 100)
    (H : St B s (outer T :: sls T needs :: frame L [] :: cel1 L (some (.ref T.a)) :: cel3 L none :: l))
    (h : ∀ B' O s', GS B B' → St B' s' (ilst O out :: outer T :: sls T needs :: frame L [] :: cel1 L (some (.ref T.a)) :: cel3 L (some (.ref O)) :: l) → Q .next s') :
    wpAny (model PySem.Challenge.pw_xc0002_01 w) A (exec (lawS 6) (lawE L fa)) Q (fun _ _ => False) s := by
  have e : lawS 6 = lawS 6 := rfl
  conv at e => rhs; whnf
  rw [e]; clear e
  have G := X.G
  have hh := X.hh
  have hdep := X.dep
  (with_reducible show wpAny _ _ (exec (Stmt.Assign [Expr.Name _ _] _ _) _) _ _ _); refine wpAny_Assign_Name ?_; (with_reducible show wpAny _ _ (eval (Expr.Call (Expr.Name _ _) _ _ _) _) _ _ _); refine wpAny_Call_ofName ?_; (with_reducible show wpAny _ _ (eval (Expr.Name _ _) (envOfC _ _ _ _ _)) _ _ _); refine nmC_b (v := .type "list") (by with_reducible assumption) (by with_reducible assumption) (by k_is) (by rfl) ?_ (by decide) (by rfl) (by rfl) (by decide); (with_reducible show wpAny _ _ (callWith _ (Value.type _) _ (backTo _ (starEach (_ :: _) _)) _) _ _ _); refine cw_mach ?_ (by rfl) (by rfl) (by rfl) (by rfl); (with_reducible show wpAny _ _ (spliced (backTo _ (starEach (_ :: _) _))) _ _ _); refine wpAny_items_cons ?_; (with_reducible show wpAny _ _ (eval (Expr.Call (Expr.Attribute _ _ _) _ _ _) _) _ _ _); refine MethodCall_ ?_; (with_reducible show wpAny _ _ (eval (Expr.Call (Expr.Name _ _) _ _ _) _) _ _ _); refine wpAny_Call_ofName ?_; (with_reducible show wpAny _ _ (eval (Expr.Name _ _) (envOfC _ _ _ _ _)) _ _ _); refine nmC_g (by with_reducible assumption) (by with_reducible assumption) (by k_is) ?_ (by rfl) (by rfl) (by decide); (with_reducible show wpAny _ _ (callWith _ (Value.ref _) _ (backTo _ (starEach (_ :: _) _)) _) _ _ _); refine cw_fn (by with_reducible assumption) (by k_is) ?_ (by rfl) (by rfl) (by rfl); (with_reducible show wpAny _ _ (spliced (backTo _ (starEach (_ :: _) _))) _ _ _); refine wpAny_items_cons ?_; (with_reducible show wpAny _ _ (eval (Expr.Name _ _) (envOfC _ _ _ _ _)) _ _ _); refine nmC_c (by with_reducible assumption) (by rfl) (by with_reducible exact mem_3) ?_ (by rfl) (by rfl) (by decide); (with_reducible show wpAny _ _ (spliced (backTo _ (starEach [] _))) _ _ _); refine wpAny_items_nil ?_; (with_reducible show Frag.In _ _ ∧ wpAny _ _ _ _ _ _); refine ⟨St.kin (by with_reducible assumption) (by with_reducible assumption), ?_⟩
  refine wpAny_call (law_sorter_ok (T := T) (needs := needs) H G (fun j _ => hn.rng j) (by ((with_reducible refine Nat.lt_trans (by with_reducible assumption) ?_); exact Nat.le_of_ble_eq_true rfl)) hh (fun k => by have := hn.len k; (first | lia | omega)) ?_)
  intro S t3 t4 s2 H2
  dsimp only
  refine gm_ts (f := 127) (by with_reducible assumption) (by with_reducible assumption) (by with_reducible exact mem_0) (by with_reducible exact mem_1) (by k_is) (by k_is) (by k_is) (fun _ _ _ _ _ => rfl) ?_
  (with_reducible show wpAny _ _ (callWith _ (Value.ref _) _ (backTo _ (starEach [] _)) _) _ _ _); refine cw_fn0 (by with_reducible assumption) (by with_reducible assumption) (by k_is) ?_ (by rfl); dsimp only
  refine wpAny_call (order_ok (S := S) (np := (built needs).1) (succ := (built needs).2) (out := out) (o := 0) (t3 := t3) (t4 := t4) H2 G (by ((with_reducible refine Nat.lt_trans (by with_reducible assumption) ?_); exact Nat.le_of_ble_eq_true rfl)) hbl ?_ hno (fun _ => hkr) ?_)
  · intro k x hx
    obtain ⟨j, hj, rfl, _⟩ := (built_mem x k).mp hx
    (first | lia | omega)
  intro L2 a c s3 H3 hGo
  dsimp only
  (with_reducible show wpAny _ _ (spliced (backTo _ (starEach [] _))) _ _ _); refine wpAny_items_nil ?_
  have hsz : (B.gens.push (GenState.fresh c))[B.gens.size]? = some (.fresh c) := by simp
  refine list_gen (w := w) (E0 := [lawE L fa]) (g := B.gens.size) (lg := [frame L2 [(Str.ofString "self", .ref S.a)], tsi S, tsd w S .none (.int 0 t3) (.int 0 t4), n2i S 6, nis S ((built needs).1), sls S ((built needs).2)])
    (l := outer T :: sls T needs :: frame L [] :: cel1 L (some (.ref T.a)) :: cel3 L none :: l) hdep hh X.fr (law_frl (by with_reducible exact mem_2)) (St.perm H3 (by dsimp only [List.cons_append, List.nil_append]; exact permP_perm [] _)) (B := B.gen (B.gens.push (.fresh c))) G hsz (.inl ⟨rfl, rfl, rfl⟩) hGo (by ((with_reducible refine Nat.le_trans (by with_reducible assumption) ?_); exact Nat.le_of_ble_eq_true rfl)) ?_
  intro O s4 B' hB' H4
  have hB2 : GS B B' := ⟨hB'.1, hB'.2.1, fun hb => hB'.2.2 (hb.push rfl)⟩
  have X' := X.to hB2.1
  have G' := X'.G
  (with_reducible show wpAny _ _ (storeName (envOfC _ _ _ _ _) _ _) _ _ _); refine stC_c (by with_reducible assumption) (by rfl) (by with_reducible exact rep_5) ?_ (by rfl) (by rfl); intro _ _
  exact h B' O _ hB2 (by with_reducible assumption)
end
end
section
open PySem PySem.W PyProof.Rows PySem.Calls PySem.Spec
theorem sorted_unique : ∀ {xs ys : List Int}, xs.Perm ys → xs.Pairwise (· ≤ ·) → ys.Pairwise (· ≤ ·) → xs = ys
  | [], ys, hp, _, _ => (hp.symm.eq_nil).symm
  | x :: xs, [], hp, _, _ => absurd hp.length_eq (by simp)
  | x :: xs, y :: ys, hp, hx, hy => by
    obtain ⟨h1, h2⟩ := List.pairwise_cons.mp hx
    obtain ⟨h3, h4⟩ := List.pairwise_cons.mp hy
    have e : x = y := by
      have a : x ∈ y :: ys := hp.subset (.head _)
      have b : y ∈ x :: xs := hp.symm.subset (.head _)
      rcases List.mem_cons.mp a with e | a
      · exact e
      · rcases List.mem_cons.mp b with e | b
        · exact e.symm
        · have := h1 y b; have := h3 x a; (first | lia | omega)
    subst e
    rw [sorted_unique (List.Perm.cons_inv hp) h2 h4]
theorem start_loop {prog : Program} {w : World} {A : Around} {B : Bs} {s : Shared} {l : List Reg} {it n : Nat} {itr : Nat → Reg} {P : Nat → Value → Prop} {D : List Reg → Prop} {elt target iter ifs g1 scope pos acc env} {R : Result → Shared → Prop} (W : Itr prog w B A it n itr P D) (H : St B s (itr 0 :: l))
    (h0 : codeAny (model prog w) A (.compLoop (.ListComp elt [g1, ⟨target, iter, ifs, 0⟩] scope pos) 1 (.ref it) acc env) R s) :
    codeAny (model prog w) A (.compStart (.ListComp elt [g1, ⟨target, iter, ifs, 0⟩] scope pos) 1 (.ref it) acc env) R s := start_in h0 (W.self _ _ _ _ _ H h0)
noncomputable abbrev six : List Int := (List.range 6).map fun (k : Nat) => (k : Int)
theorem six_sorted : six.Pairwise (· ≤ ·) := by decide
section
variable {w : World} {A : Around} {s : Shared} {B : Bs} {l : List Reg} {mg : Str → Option Value} {L fa r D O : Addr} {fs : List (Str × Value)} {needs : Nat → List Int} {T : Lay} {Q : Flow → Shared → Prop} {out : List Int}
set_option tactic.hygienic true in
theorem stage7 (X : LawAt w A B mg L fa) (hn : NOk needs) (hp : out.Perm six) (hidx : ∀ k : Nat, k < 6 → ∀ y ∈ needs k, out.idxOf y ≤ out.idxOf (k : Int))
    (H : St B s (ilst O out :: outer T :: sls T needs :: frame L [] :: cel1 L (some (.ref T.a)) :: cel3 L (some (.ref O)) :: l))
    (h : ∀ s', St B s' (ilst O out :: outer T :: sls T needs :: frame L [] :: cel1 L (some (.ref T.a)) :: cel3 L (some (.ref O)) :: l) → Q .next s') :
    wpAny (model PySem.Challenge.pw_xc0002_01 w) A (exec (lawS 7) (lawE L fa)) Q (fun _ _ => False) s := by
  have e : lawS 7 = lawS 7 := rfl
  conv at e => rhs; whnf
  rw [e]; clear e
  have G := X.G
  have hh := X.hh
  have hun := X.un
  have hol : out.length = 6 := hp.length_eq
  have hom : ∀ x, x ∈ out ↔ 0 ≤ x ∧ x < 6 := fun x => by
    rw [hp.mem_iff]
    simp only [six, List.mem_map, List.mem_range]
    constructor
    · rintro ⟨k, hk, rfl⟩; (first | lia | omega)
    · intro hx; exact ⟨x.toNat, by (first | lia | omega), by (first | lia | omega)⟩
  (with_reducible refine wpAny_If ?_); (with_reducible refine wpAny_isTrue_BoolOp ?_); (with_reducible refine wpAny_allTrue_Or_cons ?_); (with_reducible refine wpAny_isTrue_Compare1 ?_); (with_reducible show wpAny _ _ (eval (Expr.Call (Expr.Name _ _) _ _ _) _) _ _ _); refine wpAny_Call_ofName ?_; (with_reducible show wpAny _ _ (eval (Expr.Name _ _) (envOfC _ _ _ _ _)) _ _ _); refine nmC_b (v := .builtin "sorted") (by with_reducible assumption) (by with_reducible assumption) (by k_is) (by rfl) ?_ (by decide) (by rfl) (by rfl) (by decide); (with_reducible show wpAny _ _ (callWith _ (Value.builtin _) _ (backTo _ (starEach (_ :: _) _)) _) _ _ _); refine cw_mach ?_ (by rfl) (by rfl) (by rfl) (by rfl); (with_reducible show wpAny _ _ (spliced (backTo _ (starEach (_ :: _) _))) _ _ _); refine wpAny_items_cons ?_; (with_reducible show wpAny _ _ (eval (Expr.Name _ _) (envOfC _ _ _ _ _)) _ _ _); refine nmC_c (by with_reducible assumption) (by rfl) (by with_reducible exact mem_5) ?_ (by rfl) (by rfl) (by decide); (with_reducible show wpAny _ _ (spliced (backTo _ (starEach [] _))) _ _ _); refine wpAny_items_nil ?_
  refine sorted_ilst (by with_reducible assumption) (by with_reducible exact mem_0) (by (first | lia | omega)) ?_
  intro q ys s2 H2 hys hyo
  have hyx : ys = six := sorted_unique (hys.trans hp) hyo six_sorted
  subst hyx
  (with_reducible show wpAny _ _ (eval (Expr.Call (Expr.Name _ _) _ _ _) _) _ _ _); refine wpAny_Call_ofName ?_; (with_reducible show wpAny _ _ (eval (Expr.Name _ _) (envOfC _ _ _ _ _)) _ _ _); refine nmC_b (v := .type "list") (by with_reducible assumption) (by with_reducible assumption) (by k_is) (by rfl) ?_ (by decide) (by rfl) (by rfl) (by decide); (with_reducible show wpAny _ _ (callWith _ (Value.type _) _ (backTo _ (starEach (_ :: _) _)) _) _ _ _); refine cw_mach ?_ (by rfl) (by rfl) (by rfl) (by rfl); (with_reducible show wpAny _ _ (spliced (backTo _ (starEach (_ :: _) _))) _ _ _); refine wpAny_items_cons ?_; (with_reducible show wpAny _ _ (eval (Expr.Call (Expr.Name _ _) _ _ _) _) _ _ _); refine wpAny_Call_ofName ?_; (with_reducible show wpAny _ _ (eval (Expr.Name _ _) (envOfC _ _ _ _ _)) _ _ _); refine nmC_b (v := .type "range") (by with_reducible assumption) (by with_reducible assumption) (by k_is) (by rfl) ?_ (by decide) (by rfl) (by rfl) (by decide); (with_reducible show wpAny _ _ (callWith _ (Value.type _) _ (backTo _ (starEach (_ :: _) _)) _) _ _ _); refine cw_mach ?_ (by rfl) (by rfl) (by rfl) (by rfl); (with_reducible show wpAny _ _ (spliced (backTo _ (starEach (_ :: _) _))) _ _ _); refine wpAny_items_cons ?_; (with_reducible show wpAny _ _ (eval (Expr.Constant (Const.int _) _ _) _) _ _ _); refine const_int (by with_reducible assumption) ?_; intro _ _ _; (with_reducible show wpAny _ _ (spliced (backTo _ (starEach [] _))) _ _ _); refine wpAny_items_nil ?_; (with_reducible show wpAny _ _ (call (Value.type "range") ([] ++ [Value.int _ _])) _ _ _); refine call_rng1 (by with_reducible assumption) ?_; intro _ _ _; (with_reducible show wpAny _ _ (spliced (backTo _ (starEach [] _))) _ _ _); refine wpAny_items_nil ?_
  refine list_rng (n := 6) hh (by with_reducible assumption) (show rng _ 0 (6 : Int) ∈ _ by with_reducible exact mem_0) (by (first | lia | omega)) ?_
  intro q2 s3 H3
  refine ne_ilst (by ((with_reducible refine Nat.lt_trans (by with_reducible assumption) ?_); exact Nat.le_of_ble_eq_true rfl)) (by with_reducible assumption) (by with_reducible exact mem_2) (by with_reducible exact mem_0) ?_
  intro s4 H4
  (with_reducible refine wpAny_truthy_bool ?_)
  refine b_ff ?_ (by rw [decide_eq_true (rfl : six = (List.range 6).map fun (k : Nat) => (k : Int))]; rfl)
  (with_reducible refine wpAny_allTrue_Or_cons ?_); (with_reducible refine wpAny_isTrue_Compare1 ?_)
  refine comp2_eval ?_ (by rfl) (by rfl) (by decide) (by intro _; rfl)
  (with_reducible show wpAny _ _ (eval (Expr.Call (Expr.Name _ _) _ _ _) _) _ _ _); refine wpAny_Call_ofName ?_; (with_reducible show wpAny _ _ (eval (Expr.Name _ _) (envOfC _ _ _ _ _)) _ _ _); refine nmC_b (v := .type "range") (by with_reducible assumption) (by with_reducible assumption) (by k_is) (by rfl) ?_ (by decide) (by rfl) (by rfl) (by decide); (with_reducible show wpAny _ _ (callWith _ (Value.type _) _ (backTo _ (starEach (_ :: _) _)) _) _ _ _); refine cw_mach ?_ (by rfl) (by rfl) (by rfl) (by rfl); (with_reducible show wpAny _ _ (spliced (backTo _ (starEach (_ :: _) _))) _ _ _); refine wpAny_items_cons ?_; (with_reducible show wpAny _ _ (eval (Expr.Constant (Const.int _) _ _) _) _ _ _); refine const_int (by with_reducible assumption) ?_; intro _ _ _; (with_reducible show wpAny _ _ (spliced (backTo _ (starEach [] _))) _ _ _); refine wpAny_items_nil ?_; (with_reducible show wpAny _ _ (call (Value.type "range") ([] ++ [Value.int _ _])) _ _ _); refine call_rng1 (by with_reducible assumption) ?_; intro _ _ _
  rename_i r s5 H5
  refine iter_rng (n := 6) H5 (.head _) (by (first | lia | omega)) (by (first | lia | omega)) (by (first | lia | omega)) ?_
  intro it s6 H6
  refine comp2_done (B := B) (itr_range (a := 0) (n := 6) hh) (l := ilst O out :: outer T :: sls T needs :: frame L [] :: cel1 L (some (.ref T.a)) :: cel3 L (some (.ref O)) :: l) (H6.sub (by exact sub_of [true, false, false, false, false] rfl)) (fun _ _ _ => trivial) ?_ ?_ (by intro _ _; rfl) (by decide) (by rfl) (by rfl)
  · rintro C D₀ i v s₁ hi ⟨t, rfl⟩ H7
    (with_reducible refine Subscript_ ?_); (with_reducible show wpAny _ _ (eval (Expr.Name _ _) (compEnvC _ _ _ _)) _ _ _); refine nmK_c (by with_reducible assumption) (by rfl) (by with_reducible exact mem_7) ?_ (by rfl) (by rfl) (by decide); (with_reducible show wpAny _ _ (eval (Expr.Name _ _) (compEnvC _ _ _ _)) _ _ _); refine nmK_l (by with_reducible assumption) (by with_reducible exact mem_0) (by rfl) ?_ (by rfl) (by rfl) (by decide); (with_reducible show wpAny _ _ (subscriptTail _ _ (Value.ref (Lay.a _)) (Value.int _ _)) _ _ _); refine sub_outer (by with_reducible assumption) (by with_reducible exact mem_4) (by (first | lia | omega)) (by (first | lia | omega)) ?_ (by with_unfolding_all rfl); intro _ _; (with_reducible show wpAny _ _ (pyIter (Value.ref (Lay.s _ _))) _ _ _); refine iter_sl (by with_reducible assumption) (by with_reducible exact mem_5) (by (first | lia | omega)) ?_; intro _ _ _
    rename_i it2 s8 H8
    have hi6 : (0 + (i : Int)).toNat = i := by (first | lia | omega)
    rw [hi6] at H8
    have W2 := itr_sl (prog := PySem.Challenge.pw_xc0002_01) (w := w) (A := A) (B := B) (it := it2) (n := 6) (j := i) (S := T) (succ := needs) hh hi
    have H9 : St B s8 (liter it2 (T.s i) 0 :: frame C [(Str.ofString "thing", .int (0 + i) t)] :: riter it 0 6 (i + 1) :: vlst D₀ [] :: ilst O out :: outer T :: sls T needs :: frame L [] :: cel1 L (some (.ref T.a)) :: cel3 L (some (.ref O)) :: l) := H8
    refine start_loop W2 H9 (loop_in (C := C) W2 rfl rfl rfl (by decide) H9 (fun _ => by with_reducible exact mem_5) ?_ ?_)
    · rintro j v s10 hj ⟨tk, hv⟩ H10
      rw [List.getElem?_eq_getElem hj, Option.map_some, Option.some.injEq] at hv
      subst hv
      have hmem : (needs i)[j] ∈ needs i := List.getElem_mem hj
      generalize (needs i)[j] = y at *
      have hy := hn.rng i y hmem
      have hle := hidx i hi y hmem
      refine wpAny_tests_one ?_
      (with_reducible refine wpAny_isTrue_Compare1 ?_); (with_reducible show wpAny _ _ (eval (Expr.Call (Expr.Attribute _ _ _) _ _ _) _) _ _ _); refine MethodCall_ ?_; (with_reducible show wpAny _ _ (eval (Expr.Name _ _) (compEnvC _ _ _ _)) _ _ _); refine nmK_c (by with_reducible assumption) (by rfl) (by with_reducible exact mem_9) ?_ (by rfl) (by rfl) (by decide)
      refine gm_list (r := O) (by with_reducible assumption) (by with_reducible exact mem_4) F.slot_list_index (by kernel_rfl) ?_
      (with_reducible show wpAny _ _ (callWith _ (Value.builtin _) _ (backTo _ (starEach (_ :: _) _)) _) _ _ _); refine cw_mach ?_ (by rfl) (by rfl) (by rfl) (by rfl); dsimp only; (with_reducible show wpAny _ _ (spliced (backTo _ (starEach (_ :: _) _))) _ _ _); refine wpAny_items_cons ?_; (with_reducible show wpAny _ _ (eval (Expr.Name _ _) (compEnvC _ _ _ _)) _ _ _); refine nmK_l (by with_reducible assumption) (by with_reducible exact mem_0) (by rfl) ?_ (by rfl) (by rfl) (by decide); (with_reducible show wpAny _ _ (spliced (backTo _ (starEach [] _))) _ _ _); refine wpAny_items_nil ?_
      refine index_ilst (by with_reducible assumption) (by with_reducible exact mem_4) ((hom y).mpr hy) (by (first | lia | omega)) (fun x hx => (hom x).mp hx) ?_
      intro t2 s11 H11
      (with_reducible show wpAny _ _ (eval (Expr.Call (Expr.Attribute _ _ _) _ _ _) _) _ _ _); refine MethodCall_ ?_; (with_reducible show wpAny _ _ (eval (Expr.Name _ _) (compEnvC _ _ _ _)) _ _ _); refine nmK_c (by with_reducible assumption) (by rfl) (by with_reducible exact mem_9) ?_ (by rfl) (by rfl) (by decide)
      refine gm_list (r := O) (by with_reducible assumption) (by with_reducible exact mem_4) F.slot_list_index (by kernel_rfl) ?_
      (with_reducible show wpAny _ _ (callWith _ (Value.builtin _) _ (backTo _ (starEach (_ :: _) _)) _) _ _ _); refine cw_mach ?_ (by rfl) (by rfl) (by rfl) (by rfl); dsimp only; (with_reducible show wpAny _ _ (spliced (backTo _ (starEach (_ :: _) _))) _ _ _); refine wpAny_items_cons ?_; (with_reducible show wpAny _ _ (eval (Expr.Name _ _) (compEnvC _ _ _ _)) _ _ _); refine nmK_l (by with_reducible assumption) (by with_reducible exact mem_0) (by rfl) ?_ (by rfl) (by rfl) (by decide); (with_reducible show wpAny _ _ (spliced (backTo _ (starEach [] _))) _ _ _); refine wpAny_items_nil ?_
      refine index_ilst (by with_reducible assumption) (by with_reducible exact mem_4) ((hom (0 + i)).mpr (by (first | lia | omega))) (by (first | lia | omega)) (fun x hx => (hom x).mp hx) ?_
      intro t3 s12 H12
      (with_reducible refine PyProof.Rows.gt_int ?_); (with_reducible refine wpAny_truthy_bool ?_)
      exact ⟨decide_eq_false (by rw [Int.zero_add]; (first | lia | omega)), by with_reducible assumption⟩
    · intro s10 H10
      exact ⟨rfl, H10⟩
  · intro D₀ s₁ H7
    have H8 := vlst_ints H7 .nil
    clear H7
    (with_reducible show wpAny _ _ (eval (Expr.List _ _) _) _ _ _); refine List_ ?_; (with_reducible show wpAny _ _ (spliced (backTo _ (starEach [] _))) _ _ _); refine wpAny_items_nil ?_; (with_reducible show wpAny _ _ (newList []) _ _ _); refine newlist_ints (by with_reducible assumption) .nil (by (simp_all; done)) ?_; intro _ _ _
    refine ne_ilst (by ((with_reducible refine Nat.lt_trans (by with_reducible assumption) ?_); exact Nat.le_of_ble_eq_true rfl)) (by with_reducible assumption) (by with_reducible exact mem_1) (by with_reducible exact mem_0) ?_
    intro s9 H9
    (with_reducible refine wpAny_truthy_bool ?_)
    refine b_ff ?_ (by rw [decide_eq_true rfl]; rfl)
    (with_reducible refine wpAny_allTrue_Or_nil ?_); (with_reducible show (ite _ _ _ : Prop)); refine b_ff ?_ (by with_reducible rfl); (with_reducible refine wpAny_execs_nil ?_)
    exact h _ (St.sub (by with_reducible assumption) (by exact sub_of [false, false] rfl))
end
end
section
open PySem PySem.W PyProof.Rows PySem.Calls PySem.Spec
section
variable {w : World} {A : Around} {s : Shared} {B : Bs} {l : List Reg} {mg : Str → Option Value} {L fa r D O : Addr} {fs : List (Str × Value)} {needs : Nat → List Int} {T : Lay} {Q : Flow → Shared → Prop} {out : List Int}
set_option tactic.hygienic true in
theorem stage8 {S : Lay} {t3 t4 : Nat} (X : LawAt w A B mg L fa) (hn : NOk needs) (hbl : ∀ k, ((built needs).2 k).length ≤ 10) (hno : ∀ ring, ¬ IsRing (built needs).2 ring)
    (H : St B s (tsi S :: tsd w S .none (.int 0 t3) (.int 0 t4) :: n2i S 6 :: nis S ((built needs).1) :: sls S ((built needs).2) :: frame L [] :: cel7 L (some (.ref S.a)) :: l))
    (h : ∀ r s', St B s' (tsi S :: tsd w S (.ref r) (.int 0 t3) (.int 0 t4) :: n2i S 6 :: nis S ((built needs).1) :: sls S ((built needs).2) :: ilst r (free (built needs).1 6) :: frame L [] :: cel7 L (some (.ref S.a)) :: l) → Q .next s') :
    wpAny (model PySem.Challenge.pw_xc0002_01 w) A (exec (lawS 8) (lawE L fa)) Q (fun _ _ => False) s := by
  have e : lawS 8 = lawS 8 := rfl
  conv at e => rhs; whnf
  rw [e]; clear e
  have G := X.G
  have hh := X.hh
  have hdep := X.dep
  (with_reducible show wpAny _ _ (exec (Stmt.Expr _ _) _) _ _ _); refine wpAny_Expr_any ?_; (with_reducible show wpAny _ _ (eval (Expr.Call (Expr.Attribute _ _ _) _ _ _) _) _ _ _); refine MethodCall_ ?_; (with_reducible show wpAny _ _ (eval (Expr.Name _ _) (envOfC _ _ _ _ _)) _ _ _); refine nmC_c (by with_reducible assumption) (by rfl) (by with_reducible exact mem_6) ?_ (by rfl) (by rfl) (by decide)
  refine gm_ts (f := 85) (by with_reducible assumption) (by with_reducible assumption) (by with_reducible exact mem_0) (by with_reducible exact mem_1) (by k_is) (by k_is) (by k_is) (fun _ _ _ _ _ => rfl) ?_
  (with_reducible show wpAny _ _ (callWith _ (Value.ref _) _ (backTo _ (starEach [] _)) _) _ _ _); refine cw_fn0 (by with_reducible assumption) (by with_reducible assumption) (by k_is) ?_ (by rfl); dsimp only

  refine wpAny_call (prepare_ok (np := (built needs).1) (succ := (built needs).2) (l := frame L [] :: cel7 L (some (.ref S.a)) :: l) H G hbl ?_ (by ((with_reducible refine Nat.lt_trans (by with_reducible assumption) ?_); exact Nat.le_of_ble_eq_true rfl)) hh X.fr (law_frl (by with_reducible exact mem_0)) ?_ ?_)
  · intro k x hx
    obtain ⟨j, hj, rfl, _⟩ := (built_mem x k).mp hx
    (first | lia | omega)
  · intro r s3 hA H3
    dsimp only
    exact h r _ H3
  · intro e t x tk q T' ring s3 hring H3
    exact absurd hring (hno ring)
end
end
section
open PySem PySem.W PyProof.Rows PySem.Calls PySem.Spec
noncomputable def forBody : Stmt → List Stmt
  | .For _ _ body _ _ => body
  | _ => []
noncomputable def turnS (i : Nat) : Stmt := nth (forBody (lawS 9)) i
noncomputable def filt (needs : Nat → List Int) (p : Int → Bool) (n : Nat) : List Int := ((List.range n).filter fun (k : Nat) => p (deepF needs 7 (k : Int) [])).map fun (k : Nat) => (k : Int)
theorem filt_succ (needs : Nat → List Int) (p : Int → Bool) (n : Nat) : filt needs p (n + 1) = filt needs p n ++ (if p (deepF needs 7 (n : Int) []) then [(n : Int)] else []) := by
  unfold filt
  rw [List.range_succ, List.filter_append, List.map_append]
  congr 1
  simp only [List.filter_cons, List.filter_nil]
  split <;> simp_all
theorem filt_len (needs : Nat → List Int) (p : Int → Bool) (n : Nat) : (filt needs p n).length ≤ n := by
  unfold filt
  rw [List.length_map]
  exact Nat.le_trans (List.length_filter_le _ _) (by simp)
theorem deepL_len (needs : Nat → List Int) (n : Nat) : (deepL needs n).length = n := by simp [deepL]
theorem deepL_at (needs : Nat → List Int) (n i : Nat) (hi : i < (deepL needs n).length) : (deepL needs n)[i] = deepF needs 7 (i : Int) [] := by simp [deepL]
section
variable {w : World} {A : Around} {s : Shared} {B : Bs} {l : List Reg} {mg : Str → Option Value} {L fa r D O t : Addr} {fs : List (Str × Value)} {needs succ : Nat → List Int} {np : Nat → Int} {S : Lay} {Q : Flow → Shared → Prop} {rdy : List Int} {c f : Int} {t3 t4 tk : Nat} {v6 v5 : Option Value} {turn : Int}
set_option tactic.hygienic true in
theorem turn0 (X : LawAt w A B mg L fa) (hne : rdy ≠ []) (hz : rdy.length ≤ 6)
    (H : St B s (tsi S :: tsd w S (.ref r) (.int c t3) (.int f t4) :: n2i S 6 :: nis S np :: sls S succ :: ilst r rdy :: frame L [] :: cel7 L (some (.ref S.a)) :: l))
    (h : ∀ s', St B s' (tsi S :: tsd w S (.ref r) (.int c t3) (.int f t4) :: n2i S 6 :: nis S np :: sls S succ :: ilst r rdy :: frame L [] :: cel7 L (some (.ref S.a)) :: l) → Q .next s') :
    wpAny (model PySem.Challenge.pw_xc0002_01 w) A (exec (turnS 0) (lawE L fa)) Q (fun _ _ => False) s := by
  have e : turnS 0 = turnS 0 := rfl
  conv at e => rhs; whnf
  rw [e]; clear e
  have G := X.G
  have hh := X.hh
  have hdep := X.dep
  (with_reducible refine wpAny_If ?_); (with_reducible refine wpAny_isTrue_Not ?_); (with_reducible show wpAny _ _ (isTrue _ _ _) _ _ _); refine wpAny_isTrue_value ?_; (with_reducible show wpAny _ _ (eval (Expr.Call (Expr.Attribute _ _ _) _ _ _) _) _ _ _); refine MethodCall_ ?_; (with_reducible show wpAny _ _ (eval (Expr.Name _ _) (envOfC _ _ _ _ _)) _ _ _); refine nmC_c (by with_reducible assumption) (by rfl) (by with_reducible exact mem_7) ?_ (by rfl) (by rfl) (by decide)
  refine gm_ts (f := 99) (by with_reducible assumption) (by with_reducible assumption) (by with_reducible exact mem_0) (by with_reducible exact mem_1) (by k_is) (by k_is) (by k_is) (fun _ _ _ _ _ => rfl) ?_
  (with_reducible show wpAny _ _ (callWith _ (Value.ref _) _ (backTo _ (starEach [] _)) _) _ _ _); refine cw_fn0 (by with_reducible assumption) (by with_reducible assumption) (by k_is) ?_ (by rfl); dsimp only
  refine wpAny_call (is_active_ok (np := np) (succ := succ) (xs := rdy) (r := r) (l := frame L [] :: cel7 L (some (.ref S.a)) :: l) H G (by ((with_reducible refine Nat.le_trans (by with_reducible assumption) ?_); exact Nat.le_of_ble_eq_true rfl)) (by ((with_reducible refine Nat.lt_trans (by with_reducible assumption) ?_); exact Nat.le_of_ble_eq_true rfl)) fun s2 H2 => ?_)
  dsimp only
  (with_reducible refine wpAny_truthy_bool ?_)
  refine b_ff ?_ (by cases rdy with | nil => exact absurd rfl hne | cons => simp)
  (with_reducible refine wpAny_execs_nil ?_)
  exact h _ H2
set_option tactic.hygienic true in
theorem turn1 (X : LawAt w A B mg L fa) (hz : rdy.length ≤ 6) (hx : ∀ x ∈ rdy, 0 ≤ x ∧ x < 6)
    (H : St B s (tsi S :: tsd w S (.ref r) (.int c t3) (.int f t4) :: n2i S 6 :: nis S np :: sls S succ :: ilst r rdy :: frame L [] :: cel6 L v6 :: cel7 L (some (.ref S.a)) :: l))
    (h : ∀ t t3' s', St B s' (itup t rdy :: tsi S :: tsd w S (.ref r) (.int (c + rdy.length) t3') (.int f t4) :: n2i S 6 :: nis S (fun k => if (k : Int) ∈ rdy then -1 else np k) :: sls S succ :: ilst r [] :: frame L [] :: cel6 L (some (.ref t)) :: cel7 L (some (.ref S.a)) :: l) → Q .next s') :
    wpAny (model PySem.Challenge.pw_xc0002_01 w) A (exec (turnS 1) (lawE L fa)) Q (fun _ _ => False) s := by
  have e : turnS 1 = turnS 1 := rfl
  conv at e => rhs; whnf
  rw [e]; clear e
  have G := X.G
  have hh := X.hh
  have hdep := X.dep
  (with_reducible show wpAny _ _ (exec (Stmt.Assign [Expr.Name _ _] _ _) _) _ _ _); refine wpAny_Assign_Name ?_; (with_reducible show wpAny _ _ (eval (Expr.Call (Expr.Attribute _ _ _) _ _ _) _) _ _ _); refine MethodCall_ ?_; (with_reducible show wpAny _ _ (eval (Expr.Name _ _) (envOfC _ _ _ _ _)) _ _ _); refine nmC_c (by with_reducible assumption) (by rfl) (by with_reducible exact mem_8) ?_ (by rfl) (by rfl) (by decide)
  refine gm_ts (f := 92) (by with_reducible assumption) (by with_reducible assumption) (by with_reducible exact mem_0) (by with_reducible exact mem_1) (by k_is) (by k_is) (by k_is) (fun _ _ _ _ _ => rfl) ?_
  (with_reducible show wpAny _ _ (callWith _ (Value.ref _) _ (backTo _ (starEach [] _)) _) _ _ _); refine cw_fn0 (by with_reducible assumption) (by with_reducible assumption) (by k_is) ?_ (by rfl); dsimp only
  refine wpAny_call (get_ready_ok (np := np) (succ := succ) (xs := rdy) (r := r) (l := frame L [] :: cel6 L v6 :: cel7 L (some (.ref S.a)) :: l) H G hx (by ((with_reducible refine Nat.le_trans (by with_reducible assumption) ?_); exact Nat.le_of_ble_eq_true rfl)) (by ((with_reducible refine Nat.lt_trans (by with_reducible assumption) ?_); exact Nat.le_of_ble_eq_true rfl)) hh fun t t3' s2 H2 => ?_)
  dsimp only
  (with_reducible show wpAny _ _ (storeName (envOfC _ _ _ _ _) _ _) _ _ _); refine stC_c (by with_reducible assumption) (by rfl) (by with_reducible exact rep_8) ?_ (by rfl) (by rfl); intro _ _
  exact h t t3' _ (by with_reducible assumption)
set_option tactic.hygienic true in
theorem turn3 (X : LawAt w A B mg L fa)
    (H : St B s (ilst D (deepL needs 6) :: frame L [] :: cel2 L (some (.ref D)) :: cel4 L (some (.int turn tk)) :: cel5 L v5 :: l))
    (h : ∀ D2 s', St B s' (ilst D2 (filt needs (fun d => decide (turn < d)) 6) :: ilst D (deepL needs 6) :: frame L [] :: cel2 L (some (.ref D)) :: cel4 L (some (.int turn tk)) :: cel5 L (some (.ref D2)) :: l) → Q .next s') :
    wpAny (model PySem.Challenge.pw_xc0002_01 w) A (exec (turnS 3) (lawE L fa)) Q (fun _ _ => False) s := by
  have e : turnS 3 = turnS 3 := rfl
  conv at e => rhs; whnf
  rw [e]; clear e
  have G := X.G
  have hh := X.hh
  have hdep := X.dep
  (with_reducible show wpAny _ _ (exec (Stmt.Assign [Expr.Name _ _] _ _) _) _ _ _); refine wpAny_Assign_Name ?_
  refine comp_eval ?_ (by rfl) (by rfl) (by decide) (by intro _; rfl)
  (with_reducible show wpAny _ _ (eval (Expr.Call (Expr.Name _ _) _ _ _) _) _ _ _); refine wpAny_Call_ofName ?_; (with_reducible show wpAny _ _ (eval (Expr.Name _ _) (envOfC _ _ _ _ _)) _ _ _); refine nmC_b (v := .type "range") (by with_reducible assumption) (by with_reducible assumption) (by k_is) (by rfl) ?_ (by decide) (by rfl) (by rfl) (by decide); (with_reducible show wpAny _ _ (callWith _ (Value.type _) _ (backTo _ (starEach (_ :: _) _)) _) _ _ _); refine cw_mach ?_ (by rfl) (by rfl) (by rfl) (by rfl); (with_reducible show wpAny _ _ (spliced (backTo _ (starEach (_ :: _) _))) _ _ _); refine wpAny_items_cons ?_; (with_reducible show wpAny _ _ (eval (Expr.Constant (Const.int _) _ _) _) _ _ _); refine const_int (by with_reducible assumption) ?_; intro _ _ _; (with_reducible show wpAny _ _ (spliced (backTo _ (starEach [] _))) _ _ _); refine wpAny_items_nil ?_; (with_reducible show wpAny _ _ (call (Value.type "range") ([] ++ [Value.int _ _])) _ _ _); refine call_rng1 (by with_reducible assumption) ?_; intro _ _ _
  rename_i q s2 H2
  refine iter_rng (n := 6) H2 (.head _) (by (first | lia | omega)) (by (first | lia | omega)) (by (first | lia | omega)) ?_
  intro it s3 H3
  refine comp_done (B := B) (itr_range (a := 0) (n := 6) hh) (fun i l₁ vs => i ≤ 6 ∧ l₁ = ilst D (deepL needs 6) :: frame L [] :: cel2 L (some (.ref D)) :: cel4 L (some (.int turn tk)) :: cel5 L v5 :: l ∧ IntsAre vs (filt needs (fun d => decide (turn < d)) i))
    (l := ilst D (deepL needs 6) :: frame L [] :: cel2 L (some (.ref D)) :: cel4 L (some (.int turn tk)) :: cel5 L v5 :: l) (H3.sub (by exact sub_of [true, false] rfl)) ⟨by (first | lia | omega), rfl, .nil⟩ ?_ ?_ ?_ ?_ (by decide) (by rfl) (by rfl)
  · rintro i l₁ vs _ C D₀ fs
    trivial
  · rintro i l₁ vs ⟨hi, rfl, hv⟩
    have := filt_len needs (fun d => decide (turn < d)) i
    rw [hv.length]; (first | lia | omega)
  · rintro C D₀ i v l₁ vs s₁ hi ⟨t, rfl⟩ ⟨_, rfl, hv⟩ H6
    refine wpAny_tests_one ?_
    (with_reducible refine wpAny_isTrue_Compare1 ?_); (with_reducible refine Subscript_ ?_); (with_reducible show wpAny _ _ (eval (Expr.Name _ _) (compEnvC _ _ _ _)) _ _ _); refine nmK_c (by with_reducible assumption) (by rfl) (by with_reducible exact mem_5) ?_ (by rfl) (by rfl) (by decide); (with_reducible show wpAny _ _ (eval (Expr.Name _ _) (compEnvC _ _ _ _)) _ _ _); refine nmK_l (by with_reducible assumption) (by with_reducible exact mem_0) (by rfl) ?_ (by rfl) (by rfl) (by decide)
    refine sub_ilst (by with_reducible assumption) (by with_reducible exact mem_3) (by (first | lia | omega)) (by (first | lia | omega)) (by rw [deepL_len]; (first | lia | omega)) ?_ (by with_unfolding_all rfl)
    intro t2 s7 H7
    (with_reducible show wpAny _ _ (eval (Expr.Name _ _) (compEnvC _ _ _ _)) _ _ _); refine nmK_c (by with_reducible assumption) (by rfl) (by with_reducible exact mem_6) ?_ (by rfl) (by rfl) (by decide); (with_reducible refine PyProof.Rows.gt_int ?_); (with_reducible refine wpAny_truthy_bool ?_)
    have hfs := filt_succ needs (fun d => decide (turn < d)) i
    have hel : (deepL needs 6)[(0 + (i : Int)).toNat]'(by rw [deepL_len]; (first | lia | omega)) = deepF needs 7 (i : Int) [] := by
      rw [deepL_at]; congr 1; (first | lia | omega)
    rw [hel]
    refine b_split (fun hb => ?_) (fun hb => ?_)
    · (with_reducible show wpAny _ _ (eval (Expr.Name _ _) (compEnvC _ _ _ _)) _ _ _); refine nmK_l (by with_reducible assumption) (by with_reducible exact mem_0) (by rfl) ?_ (by rfl) (by rfl) (by decide)
      refine ⟨_, ⟨by (first | lia | omega), rfl, ?_⟩, by with_reducible assumption⟩
      rw [hfs, if_pos (by simpa using hb), Int.zero_add]
      exact ints_append hv (.cons _ _ .nil)
    · refine ⟨_, ⟨by (first | lia | omega), rfl, ?_⟩, by with_reducible assumption⟩
      rw [hfs, if_neg (by simpa using hb), List.append_nil]
      exact hv
  · rintro D₀ l₁ vs s₁ ⟨_, rfl, hv⟩ H6
    have H7 := vlst_ints H6 hv
    clear H6
    (with_reducible show wpAny _ _ (storeName (envOfC _ _ _ _ _) _ _) _ _ _); refine stC_c (by with_reducible assumption) (by rfl) (by with_reducible exact rep_5) ?_ (by rfl) (by rfl); intro _ _
    exact h D₀ _ (by with_reducible assumption)
end
end
section
open PySem PySem.W PyProof.Rows PySem.Calls PySem.Spec
section
variable {w : World} {A : Around} {s : Shared} {B : Bs} {l : List Reg} {mg : Str → Option Value} {L fa r D O t : Addr} {fs : List (Str × Value)} {needs succ : Nat → List Int} {np : Nat → Int} {S : Lay} {Q : Flow → Shared → Prop} {rdy : List Int} {c f : Int} {t3 t4 tk : Nat} {v6 v5 : Option Value} {turn : Int}
set_option tactic.hygienic true in
theorem turn2 (X : LawAt w A B mg L fa) (hz : rdy.length ≤ 6) (hs : ∀ ys : List Int, ys.Perm rdy → ys.Pairwise (· ≤ ·) → ys = filt needs (fun d => decide (d = turn)) 6)
    (H : St B s (itup t rdy :: tsi S :: tsd w S (.ref r) (.int c t3) (.int f t4) :: n2i S 6 :: nis S np :: sls S succ :: ilst r [] :: ilst D (deepL needs 6) :: frame L [] :: cel2 L (some (.ref D)) :: cel4 L (some (.int turn tk)) :: cel6 L (some (.ref t)) :: cel7 L (some (.ref S.a)) :: l))
    (h : ∀ t3' s', St B s' (itup t rdy :: tsi S :: tsd w S (.ref r) (.int c t3') (.int f t4) :: n2i S 6 :: nis S np :: sls S succ :: ilst r [] :: ilst D (deepL needs 6) :: frame L [] :: cel2 L (some (.ref D)) :: cel4 L (some (.int turn tk)) :: cel6 L (some (.ref t)) :: cel7 L (some (.ref S.a)) :: l) → Q .next s') :
    wpAny (model PySem.Challenge.pw_xc0002_01 w) A (exec (turnS 2) (lawE L fa)) Q (fun _ _ => False) s := by
  have e : turnS 2 = turnS 2 := rfl
  conv at e => rhs; whnf
  rw [e]; clear e
  have G := X.G
  have hh := X.hh
  have hdep := X.dep
  have hun := X.un
  (with_reducible refine wpAny_If ?_); (with_reducible refine wpAny_isTrue_BoolOp ?_); (with_reducible refine wpAny_allTrue_Or_cons ?_); (with_reducible refine wpAny_isTrue_Compare1 ?_); (with_reducible show wpAny _ _ (eval (Expr.Call (Expr.Name _ _) _ _ _) _) _ _ _); refine wpAny_Call_ofName ?_; (with_reducible show wpAny _ _ (eval (Expr.Name _ _) (envOfC _ _ _ _ _)) _ _ _); refine nmC_b (v := .builtin "sorted") (by with_reducible assumption) (by with_reducible assumption) (by k_is) (by rfl) ?_ (by decide) (by rfl) (by rfl) (by decide); (with_reducible show wpAny _ _ (callWith _ (Value.builtin _) _ (backTo _ (starEach (_ :: _) _)) _) _ _ _); refine cw_mach ?_ (by rfl) (by rfl) (by rfl) (by rfl); (with_reducible show wpAny _ _ (spliced (backTo _ (starEach (_ :: _) _))) _ _ _); refine wpAny_items_cons ?_; (with_reducible show wpAny _ _ (eval (Expr.Name _ _) (envOfC _ _ _ _ _)) _ _ _); refine nmC_c (by with_reducible assumption) (by rfl) (by (refine List.mem_cons_of_mem _ ?_; refine List.mem_cons_of_mem _ ?_; with_reducible exact mem_9)) ?_ (by rfl) (by rfl) (by decide); (with_reducible show wpAny _ _ (spliced (backTo _ (starEach [] _))) _ _ _); refine wpAny_items_nil ?_
  refine sorted_itup (r := t) (xs := rdy) (by with_reducible assumption) (by with_reducible exact mem_0) (by ((with_reducible refine Nat.lt_of_le_of_lt (by with_reducible assumption) ?_); exact Nat.le_of_ble_eq_true rfl)) ?_
  intro q ys s2 H2 hys hyo
  have hyx := hs ys hys hyo
  have hyl : ys.length ≤ 6 := hys.length_eq ▸ hz
  refine comp_eval ?_ (by rfl) (by rfl) (by decide) (by intro _; rfl)
  (with_reducible show wpAny _ _ (eval (Expr.Call (Expr.Name _ _) _ _ _) _) _ _ _); refine wpAny_Call_ofName ?_; (with_reducible show wpAny _ _ (eval (Expr.Name _ _) (envOfC _ _ _ _ _)) _ _ _); refine nmC_b (v := .type "range") (by with_reducible assumption) (by with_reducible assumption) (by k_is) (by rfl) ?_ (by decide) (by rfl) (by rfl) (by decide); (with_reducible show wpAny _ _ (callWith _ (Value.type _) _ (backTo _ (starEach (_ :: _) _)) _) _ _ _); refine cw_mach ?_ (by rfl) (by rfl) (by rfl) (by rfl); (with_reducible show wpAny _ _ (spliced (backTo _ (starEach (_ :: _) _))) _ _ _); refine wpAny_items_cons ?_; (with_reducible show wpAny _ _ (eval (Expr.Constant (Const.int _) _ _) _) _ _ _); refine const_int (by with_reducible assumption) ?_; intro _ _ _; (with_reducible show wpAny _ _ (spliced (backTo _ (starEach [] _))) _ _ _); refine wpAny_items_nil ?_; (with_reducible show wpAny _ _ (call (Value.type "range") ([] ++ [Value.int _ _])) _ _ _); refine call_rng1 (by with_reducible assumption) ?_; intro _ _ _
  rename_i q2 s3 H3
  refine iter_rng (n := 6) H3 (.head _) (by (first | lia | omega)) (by (first | lia | omega)) (by (first | lia | omega)) ?_
  intro it s4 H4
  generalize hl0 : (ilst q ys :: itup t rdy :: tsi S :: tsd w S (.ref r) (.int c t3) (.int f t4) :: n2i S 6 :: nis S np :: sls S succ :: ilst r [] :: ilst D (deepL needs 6) :: frame L [] :: cel2 L (some (.ref D)) :: cel4 L (some (.int turn tk)) :: cel6 L (some (.ref t)) :: cel7 L (some (.ref S.a)) :: l) = l0 at *
  refine comp_done (B := B) (itr_range (a := 0) (n := 6) hh) (fun i l₁ vs => i ≤ 6 ∧ l₁ = l0 ∧ IntsAre vs (filt needs (fun d => decide (d = turn)) i))
    (l := l0) (H4.sub (by exact sub_of [true, false] rfl)) ⟨by (first | lia | omega), rfl, .nil⟩ ?_ ?_ ?_ ?_ (by decide) (by rfl) (by rfl)
  · rintro i l₁ vs _ C D₀ fs
    trivial
  · rintro i l₁ vs ⟨hi, _, hv⟩
    have := filt_len needs (fun d => decide (d = turn)) i
    rw [hv.length]; (first | lia | omega)
  · rintro C D₀ i v l₁ vs s₁ hi ⟨t, rfl⟩ ⟨_, rfl, hv⟩ H6
    refine wpAny_tests_one ?_
    subst hl0
    (with_reducible refine wpAny_isTrue_Compare1 ?_); (with_reducible refine Subscript_ ?_); (with_reducible show wpAny _ _ (eval (Expr.Name _ _) (compEnvC _ _ _ _)) _ _ _); refine nmK_c (by with_reducible assumption) (by rfl) (by (refine List.mem_cons_of_mem _ ?_; refine List.mem_cons_of_mem _ ?_; refine List.mem_cons_of_mem _ ?_; refine List.mem_cons_of_mem _ ?_; with_reducible exact mem_9)) ?_ (by rfl) (by rfl) (by decide); (with_reducible show wpAny _ _ (eval (Expr.Name _ _) (compEnvC _ _ _ _)) _ _ _); refine nmK_l (by with_reducible assumption) (by with_reducible exact mem_0) (by rfl) ?_ (by rfl) (by rfl) (by decide)
    refine sub_ilst (by with_reducible assumption) (by (refine List.mem_cons_of_mem _ ?_; refine List.mem_cons_of_mem _ ?_; with_reducible exact mem_9)) (by (first | lia | omega)) (by (first | lia | omega)) (by rw [deepL_len]; (first | lia | omega)) ?_ (by with_unfolding_all rfl)
    intro t2 s7 H7
    (with_reducible show wpAny _ _ (eval (Expr.Name _ _) (compEnvC _ _ _ _)) _ _ _); refine nmK_c (by with_reducible assumption) (by rfl) (by (refine List.mem_cons_of_mem _ ?_; refine List.mem_cons_of_mem _ ?_; refine List.mem_cons_of_mem _ ?_; refine List.mem_cons_of_mem _ ?_; refine List.mem_cons_of_mem _ ?_; with_reducible exact mem_9)) ?_ (by rfl) (by rfl) (by decide); (with_reducible refine PyProof.Rows.eq_int ?_); (with_reducible refine wpAny_truthy_bool ?_)
    have hfs := filt_succ needs (fun d => decide (d = turn)) i
    have hel : (deepL needs 6)[(0 + (i : Int)).toNat]'(by rw [deepL_len]; (first | lia | omega)) = deepF needs 7 (i : Int) [] := by
      rw [deepL_at]; congr 1; (first | lia | omega)
    rw [hel]
    refine b_split (fun hb => ?_) (fun hb => ?_)
    · (with_reducible show wpAny _ _ (eval (Expr.Name _ _) (compEnvC _ _ _ _)) _ _ _); refine nmK_l (by with_reducible assumption) (by with_reducible exact mem_0) (by rfl) ?_ (by rfl) (by rfl) (by decide)
      refine ⟨_, ⟨by (first | lia | omega), rfl, ?_⟩, by with_reducible assumption⟩
      rw [hfs, if_pos (by simpa using hb), Int.zero_add]
      exact ints_append hv (.cons _ _ .nil)
    · refine ⟨_, ⟨by (first | lia | omega), rfl, ?_⟩, by with_reducible assumption⟩
      rw [hfs, if_neg (by simpa using hb), List.append_nil]
      exact hv
  · rintro D₀ l₁ vs s₁ ⟨_, rfl, hv⟩ H6
    have H7 := vlst_ints H6 hv
    clear H6
    subst hl0
    refine ne_ilst (by ((with_reducible refine Nat.lt_trans (by with_reducible assumption) ?_); exact Nat.le_of_ble_eq_true rfl)) H7 (by with_reducible exact mem_1) (.head _) ?_
    intro s8 H8
    (with_reducible refine wpAny_truthy_bool ?_)
    refine b_ff ?_ (by rw [decide_eq_true hyx]; rfl)
    (with_reducible refine wpAny_allTrue_Or_cons ?_); (with_reducible refine wpAny_isTrue_Compare1 ?_); (with_reducible show wpAny _ _ (eval (Expr.Call (Expr.Attribute _ _ _) _ _ _) _) _ _ _); refine MethodCall_ ?_; (with_reducible show wpAny _ _ (eval (Expr.Name _ _) (envOfC _ _ _ _ _)) _ _ _); refine nmC_c (by with_reducible assumption) (by rfl) (by (refine List.mem_cons_of_mem _ ?_; refine List.mem_cons_of_mem _ ?_; refine List.mem_cons_of_mem _ ?_; refine List.mem_cons_of_mem _ ?_; refine List.mem_cons_of_mem _ ?_; with_reducible exact mem_9)) ?_ (by rfl) (by rfl) (by decide)
    refine gm_ts (f := 92) (by with_reducible assumption) (by with_reducible assumption) (by with_reducible exact mem_3) (by with_reducible exact mem_4) (by k_is) (by k_is) (by k_is) (fun _ _ _ _ _ => rfl) ?_
    (with_reducible show wpAny _ _ (callWith _ (Value.ref _) _ (backTo _ (starEach [] _)) _) _ _ _); refine cw_fn0 (by with_reducible assumption) (by with_reducible assumption) (by k_is) ?_ (by rfl); dsimp only
    refine wpAny_call (get_ready_ok (np := np) (succ := succ) (xs := []) (r := r) (S := S) (out := c) (fin := f) (t3 := t3) (t4 := t4) (l := ilst D₀ (filt needs (fun d => decide (d = turn)) 6) :: ilst q ys :: itup t rdy :: ilst D (deepL needs 6) :: frame L [] :: cel2 L (some (.ref D)) :: cel4 L (some (.int turn tk)) :: cel6 L (some (.ref t)) :: cel7 L (some (.ref S.a)) :: l)
      (St.perm H8 (by exact permP_perm [3, 3, 3, 3, 3, 3] _)) G (fun _ h => absurd h List.not_mem_nil) (by simp) (by ((with_reducible refine Nat.lt_trans (by with_reducible assumption) ?_); exact Nat.le_of_ble_eq_true rfl)) hh fun t5 t3' s9 H9 => ?_)
    dsimp only
    simp only [List.not_mem_nil, if_false, List.length_nil, Int.natCast_zero, Int.add_zero] at H9
    refine Tuple_ (wpAny_items_nil ?_)
    refine newtup_ints H9 .nil (by simp) ?_
    intro t6 s10 H10
    refine ne_itup (by ((with_reducible refine Nat.lt_trans (by with_reducible assumption) ?_); exact Nat.le_of_ble_eq_true rfl)) H10 (by with_reducible exact mem_1) (.head _) ?_
    intro s11 H11
    (with_reducible refine wpAny_truthy_bool ?_)
    refine b_ff ?_ (by rfl)
    (with_reducible refine wpAny_allTrue_Or_nil ?_); (with_reducible show (ite _ _ _ : Prop)); refine b_ff ?_ (by with_reducible rfl); (with_reducible refine wpAny_execs_nil ?_)
    exact h t3' _ (St.sub (St.perm H11 (l' := itup t6 [] :: itup t5 [] :: ilst D₀ (filt needs (fun d => decide (d = turn)) 6) :: ilst q ys :: itup t rdy :: tsi S :: tsd w S (.ref r) (.int c t3') (.int f t4) :: n2i S 6 :: nis S np :: sls S succ :: ilst r [] :: ilst D (deepL needs 6) :: frame L [] :: cel2 L (some (.ref D)) :: cel4 L (some (.int turn tk)) :: cel6 L (some (.ref t)) :: cel7 L (some (.ref S.a)) :: l) (by exact permP_perm [0, 0, 6, 6, 6] _)) (by exact sub_of [false, false, false, false] rfl))
end
end
section
open PySem PySem.W PyProof.Rows PySem.Calls PySem.Spec
theorem FrL.perm {envs : List Env} {l l' : List Reg} (h : FrL envs l) (p : l.Perm l') : FrL envs l' := h.sub fun _ hx => p.subset hx
theorem FrL.under {env : Env} {envs : List Env} {l : List Reg} {L : Addr} {fs : List (Str × Value)} (h : FrL envs l) (hk : env.scope.kind ≠ .module) (hf : env.frame = some L) : FrL (env :: envs) (frame L fs :: l) :=
  FrL.cons hk hf (.head _) (h.sub fun _ hx => .tail _ hx)
noncomputable abbrev lamq : Str := Str.ofString "law.<locals>.<lambda>"
section
variable {w : World} {A : Around} {s : Shared} {B : Bs} {l : List Reg} {mg : Str → Option Value} {L fa r D2 O t : Addr} {fs : List (Str × Value)} {needs succ : Nat → List Int} {np : Nat → Int} {S : Lay} {Q : Flow → Shared → Prop} {rdy ks : List Int} {c f : Int} {t3 t4 tk : Nat} {cs : List Addr} {v6 v5 : Option Value} {turn : Int}
set_option tactic.hygienic true in
theorem turn4 (X : LawAt w A B mg L fa) (hz : ks.length ≤ 6) (hks : ∀ x ∈ ks, (0 ≤ x ∧ x < 6) ∧ 0 ≤ np x.toNat)
    (H : St B s (tsi S :: tsd w S (.ref r) (.int c t3) (.int f t4) :: n2i S 6 :: nis S np :: sls S succ :: ilst r [] :: ilst D2 ks :: frame L [] :: cel5 L (some (.ref D2)) :: cel7 L (some (.ref S.a)) :: tabq 160 lamq cs :: l))
    (h : ∀ cs s', St B s' (tsi S :: tsd w S (.ref r) (.int c t3) (.int f t4) :: n2i S 6 :: nis S np :: sls S succ :: ilst r [] :: ilst D2 ks :: frame L [] :: cel5 L (some (.ref D2)) :: cel7 L (some (.ref S.a)) :: tabq 160 lamq cs :: l) → Q .next s') :
    wpAny (model PySem.Challenge.pw_xc0002_01 w) A (exec (turnS 4) (lawE L fa)) Q (fun _ _ => False) s := by
  have e : turnS 4 = turnS 4 := rfl
  conv at e => rhs; whnf
  rw [e]; clear e
  have G := X.G
  have hh := X.hh
  have hdep := X.dep
  have hun := X.un
  (with_reducible refine wpAny_If ?_); (with_reducible refine wpAny_isTrue_BoolOp ?_); (with_reducible refine wpAny_allTrue_And_cons ?_); (with_reducible refine wpAny_isTrue_Compare1 ?_); (with_reducible show wpAny _ _ (eval (Expr.Name _ _) (envOfC _ _ _ _ _)) _ _ _); refine nmC_c (by with_reducible assumption) (by rfl) (by with_reducible exact mem_8) ?_ (by rfl) (by rfl) (by decide); (with_reducible show wpAny _ _ (eval (Expr.List _ _) _) _ _ _); refine List_ ?_; (with_reducible show wpAny _ _ (spliced (backTo _ (starEach [] _))) _ _ _); refine wpAny_items_nil ?_; (with_reducible show wpAny _ _ (newList []) _ _ _); refine newlist_ints (by with_reducible assumption) .nil (by (simp_all; done)) ?_; intro _ _ _
  rename_i q0 s2 H2
  refine ne_ilst (by ((with_reducible refine Nat.lt_trans (by with_reducible assumption) ?_); exact Nat.le_of_ble_eq_true rfl)) H2 (by with_reducible exact mem_7) (.head _) ?_
  intro s3 H3
  (with_reducible refine wpAny_truthy_bool ?_)
  have H3 := H3.tail
  cases ks with
  | nil =>
    refine b_ff ?_ (by rfl)
    (with_reducible show (ite _ _ _ : Prop)); refine b_ff ?_ (by with_reducible rfl); (with_reducible refine wpAny_execs_nil ?_)
    exact h _ _ H3
  | cons x ks =>
    obtain ⟨⟨hx0, hx6⟩, hnp⟩ := hks x (.head _)
    refine b_tt ?_ (by rfl)
    (with_reducible refine wpAny_allTrue_And_cons ?_); (with_reducible refine wpAny_isTrue_Not ?_); (with_reducible show wpAny _ _ (isTrue _ _ _) _ _ _); refine wpAny_isTrue_value ?_; (with_reducible show wpAny _ _ (eval (Expr.Call (Expr.Name _ _) _ _ _) _) _ _ _); refine wpAny_Call_ofName ?_; (with_reducible show wpAny _ _ (eval (Expr.Name _ _) (envOfC _ _ _ _ _)) _ _ _); refine nmC_g (by with_reducible assumption) (by with_reducible assumption) (by k_is) ?_ (by rfl) (by rfl) (by decide); (with_reducible show wpAny _ _ (callWith _ (Value.ref _) _ (backTo _ (starEach (_ :: _) _)) _) _ _ _); refine cw_fn (by with_reducible assumption) (by k_is) ?_ (by rfl) (by rfl) (by rfl); (with_reducible show wpAny _ _ (spliced (backTo _ (starEach (_ :: _) _))) _ _ _); refine wpAny_items_cons ?_
    refine sl_lambda (q := lamq) H3 (O := by exact .there (.there (.there (.there (.there (.there (.there (.there (.there (.there (.here))))))))))) X.ln rfl rfl rfl rfl rfl ?_
    intro lf c' cs' s4 hc' H4
    (with_reducible show wpAny _ _ (spliced (backTo _ (starEach [] _))) _ _ _); refine wpAny_items_nil ?_; (with_reducible show Frag.In _ _ ∧ wpAny _ _ _ _ _ _); refine ⟨St.kin (by with_reducible assumption) (by with_reducible assumption), ?_⟩
    refine wpAny_call (refused_ok H4 G (.head _) (by ((with_reducible refine Nat.lt_trans (by with_reducible assumption) ?_); exact Nat.le_of_ble_eq_true rfl)) hh X.fr (law_frl (by with_reducible exact mem_9)) ?_ ?_)
    · intro A' outerE' L1 s5 hA' hh' hF' hFl' H5
      refine sl_callLam H5 (.tail _ (.head _)) (.tail _ (.tail _ (.head _))) hc' G.lim (by rw [hA']; show A.depth + 1 < 1000; (first | lia | omega)) (fun _ _ => rfl) ?_ (by rfl) (by rfl) (by rfl) (by decide)
      intro L2 s6 H6
      (with_reducible show wpAny _ _ (eval (Expr.Call (Expr.Attribute _ _ _) _ _ _) _) _ _ _); refine MethodCall_ ?_; (with_reducible show wpAny _ _ (eval (Expr.Name _ _) (envX _ _ _ _ _ _)) _ _ _); refine nmX_f (by with_reducible assumption) (by rfl) (by (refine List.mem_cons_of_mem _ ?_; refine List.mem_cons_of_mem _ ?_; refine List.mem_cons_of_mem _ ?_; refine List.mem_cons_of_mem _ ?_; with_reducible exact mem_9)) ?_ (by rfl) (by rfl) (by decide) (by decide)
      refine gm_ts (f := 113) (by with_reducible assumption) (by with_reducible assumption) (by with_reducible exact mem_4) (by with_reducible exact mem_5) (by k_is) (by k_is) (by k_is) (fun _ _ _ _ _ => rfl) ?_
      (with_reducible show wpAny _ _ (callWith _ (Value.ref _) _ (backTo _ (starEach (_ :: _) _)) _) _ _ _); refine cw_fn (by with_reducible assumption) (by k_is) ?_ (by rfl) (by rfl) (by rfl); dsimp only; (with_reducible show wpAny _ _ (spliced (backTo _ (starEach (_ :: _) _))) _ _ _); refine wpAny_items_cons ?_; (with_reducible refine Subscript_ ?_); (with_reducible show wpAny _ _ (eval (Expr.Name _ _) (envX _ _ _ _ _ _)) _ _ _); refine nmX_f (by with_reducible assumption) (by rfl) (by (refine List.mem_cons_of_mem _ ?_; refine List.mem_cons_of_mem _ ?_; refine List.mem_cons_of_mem _ ?_; with_reducible exact mem_9)) ?_ (by rfl) (by rfl) (by decide) (by decide); (with_reducible show wpAny _ _ (eval (Expr.Constant (Const.int _) _ _) _) _ _ _); refine const_int (by with_reducible assumption) ?_; intro _ _ _
      refine sub_ilst (by with_reducible assumption) (by (refine List.mem_cons_of_mem _ ?_; with_reducible exact mem_9)) (by (first | lia | omega)) (by (first | lia | omega)) (by show (0 : Int).toNat < _; simp) ?_ (by with_unfolding_all rfl)
      intro t5 s7 H7
      (with_reducible show wpAny _ _ (spliced (backTo _ (starEach [] _))) _ _ _); refine wpAny_items_nil ?_; (with_reducible show Frag.In _ _ ∧ wpAny _ _ _ _ _ _); refine ⟨St.kin (by with_reducible assumption) (by with_reducible assumption), ?_⟩
      refine wpAny_call (done_err (x := x) (vs := [.int x t5]) (S := S) (r := r) (rdy := []) (out := c) (fin := f) (t3 := t3) (t4 := t4) (np := np) (succ := succ) (l := frame L2 [] :: frame L1 [(Str.ofString "what", .ref lf)] :: lamr lf lamq _ _ _ _ c' :: tabq 160 lamq cs' :: ilst D2 (x :: ks) :: frame L [] :: cel5 L (some (.ref D2)) :: cel7 L (some (.ref S.a)) :: l)
        (St.perm H7 (by exact permP_perm [4, 4, 4, 4, 4, 4] _)) G (.cons _ _ .nil) (.inr ⟨⟨hx0, hx6⟩, .inl hnp⟩) (by show A'.depth + 1 < 900; (first | lia | omega)) hh' (Around.frames_deeper hF') ?_ ?_)
      · exact FrL.perm (FrL.under (L := L2) (fs := []) hFl' (fun h => ScopeKind.noConfusion h) rfl) (by exact permP_perm [4, 4, 4, 4, 4, 4] _)
      · intro e t T s8 H8
        dsimp only
        refine leave_next (L := L2) (Around.frames_deeper hF') (FrL.sub (FrL.perm (FrL.under (L := L2) (fs := []) hFl' (fun h => ScopeKind.noConfusion h) rfl) (by exact permP_perm [4, 4, 4, 4, 4, 4] _)) fun x hx => .tail _ (.tail _ hx)) rfl H8 .here (.tail _ (.head _)) ?_
        intro T' s9 H9
        refine ⟨e, t, T', rfl, ?_⟩
        exact St.sub (St.perm H9 (l' := excr e (.type "ValueError") (.ref t) (.ref T') :: tbr T' .none :: tbr T .none :: frame L2 [] :: frame L1 [(Str.ofString "what", .ref lf)] :: lamr lf lamq _ _ _ _ c' :: tabq 160 lamq cs' :: tsi S :: tsd w S (.ref r) (.int c t3) (.int f t4) :: n2i S 6 :: nis S np :: sls S succ :: ilst r [] :: ilst D2 (x :: ks) :: frame L [] :: cel5 L (some (.ref D2)) :: cel7 L (some (.ref S.a)) :: l) (by exact permP_perm [0, 0, 0, 6, 6, 6, 6] _)) (by exact sub_of [true, true, false, false] rfl)
    · intro s5 H5
      dsimp only
      (with_reducible refine wpAny_truthy_bool ?_)
      refine b_ff ?_ (by rfl)
      (with_reducible show (ite _ _ _ : Prop)); refine b_ff ?_ (by with_reducible rfl); (with_reducible refine wpAny_execs_nil ?_)
      exact h cs' _ (St.sub (St.perm H5 (l' := lamr lf lamq _ _ _ _ c' :: tsi S :: tsd w S (.ref r) (.int c t3) (.int f t4) :: n2i S 6 :: nis S np :: sls S succ :: ilst r [] :: ilst D2 (x :: ks) :: frame L [] :: cel5 L (some (.ref D2)) :: cel7 L (some (.ref S.a)) :: tabq 160 lamq cs' :: l) (by exact permP_perm [0, 1, 1, 1, 1, 1, 1, 1, 1, 1, 1] _)) (by exact sub_of [false] rfl))
end
end
section
open PySem PySem.W PyProof.Rows PySem.Calls PySem.Spec
section
variable {w : World} {A : Around} {s : Shared} {B : Bs} {l : List Reg} {mg : Str → Option Value} {L fa r D2 O t : Addr} {fs : List (Str × Value)} {needs succ : Nat → List Int} {np : Nat → Int} {S : Lay} {Q : Flow → Shared → Prop} {rdy nxt ks : List Int} {c f : Int} {t3 t4 tk : Nat} {cs : List Addr} {v6 v5 : Option Value} {turn : Int}
theorem sub_itup {prog : Program} {value slice : Expr} {k : Int} {u : Nat} {xs : List Int} {E : Value → Shared → Prop} {Q : Value → Shared → Prop} (H : St B s l) (hm : itup t xs ∈ l) (h0 : 0 ≤ k) (hk : k < 1000) (hv : k.toNat < xs.length) (h : ∀ tk s', St B s' l → Q (.int xs[k.toNat] tk) s')
    (hs : subscripted slice false (.ref t) (.int k u) = operate [.ref t, .int k u] (getItem (.ref t) (.int k u))) :
    wpAny (model prog w) A (subscriptTail value slice (.ref t) (.int k u)) Q E s := by
  obtain ⟨o, ho, vs, n, rfl, hi⟩ := H.get hm
  obtain ⟨tk, ht⟩ := ints_at hi _ hv
  have hl : vs.length = xs.length := hi.length
  exact tail_any ⟨_, ho, rfl⟩ F.slot_tuple_getitem.lookup (getItem_tuple (items := vs.toArray) (j := k.toNat) ⟨_, ho, rfl, n, rfl⟩ (by (first | lia | omega)) (by (first | lia | omega)) (by
    rw [List.size_toArray, hl]
    unfold seqIndex?
    dsimp only
    rw [if_neg (by (first | lia | omega) : ¬ k < 0), if_pos (by simp; (first | lia | omega))]) (by simpa using ht) (h tk _ H)) hs
set_option tactic.hygienic true in
theorem turn5 (X : LawAt w A B mg L fa) (hz : rdy.length ≤ 6) (hx : ∀ x ∈ rdy, 0 ≤ x ∧ x < 6) (hs : ∀ k, (succ k).length ≤ 10) (hsx : ∀ k, ∀ x ∈ succ k, 0 ≤ x ∧ x < 6)
    (hpre : ∀ i (hi : i < rdy.length), ((rdy.take i).foldl (doneOne succ) (np, [])).1 rdy[i].toNat = -1)
    (H : St B s (tsi S :: tsd w S (.ref r) (.int c t3) (.int f t4) :: n2i S 6 :: nis S np :: sls S succ :: ilst r [] :: itup t rdy :: frame L [] :: cel6 L (some (.ref t)) :: cel7 L (some (.ref S.a)) :: l))
    (h : ∀ t4' s', St B s' (tsi S :: tsd w S (.ref r) (.int c t3) (.int (f + rdy.length) t4') :: n2i S 6 :: nis S ((rdy.foldl (doneOne succ) (np, [])).1) :: sls S succ :: ilst r (rdy.foldl (doneOne succ) (np, [])).2 :: itup t rdy :: frame L [] :: cel6 L (some (.ref t)) :: cel7 L (some (.ref S.a)) :: l) → Q .next s') :
    wpAny (model PySem.Challenge.pw_xc0002_01 w) A (exec (turnS 5) (lawE L fa)) Q (fun _ _ => False) s := by
  have e : turnS 5 = turnS 5 := rfl
  conv at e => rhs; whnf
  rw [e]; clear e
  have G := X.G
  have hh := X.hh
  have hdep := X.dep
  refine wpAny_Expr_any ?_
  refine MethodCallS ?_ (by rfl)
  (with_reducible show wpAny _ _ (eval (Expr.Name _ _) (envOfC _ _ _ _ _)) _ _ _); refine nmC_c (by with_reducible assumption) (by rfl) (by with_reducible exact mem_9) ?_ (by rfl) (by rfl) (by decide)
  refine ga_meth (f := 113) (by with_reducible assumption) G (by with_reducible exact mem_0) (by with_reducible exact mem_1) (by k_is) (by k_is) (by k_is) (by k_is) (by k_is) (by k_is) (by decide) (fun _ _ _ _ _ => rfl) ?_
  intro q s6 H6
  refine cw_methS (B := B) (a := S.a) (g := 113) G (by k_is) ?_ (by rfl)
  (with_reducible show wpAny _ _ (eval (Expr.Name _ _) (envOfC _ _ _ _ _)) _ _ _); refine nmC_c (by with_reducible assumption) (by rfl) (by with_reducible exact mem_9) ?_ (by rfl) (by rfl) (by decide)
  refine star_itup H6 (by with_reducible exact mem_7) (by ((with_reducible refine Nat.le_trans (by with_reducible assumption) ?_); exact Nat.le_of_ble_eq_true rfl)) fun vs s7 hv H7 => ⟨⟨_, H7, by with_reducible exact mem_0⟩, ?_⟩
  refine call_meth H7 (by with_reducible exact mem_0) ?_
  refine done_ok (np := np) (succ := succ) (rdy := []) (xs := rdy) (r := r) (out := c) (fin := f) (l := methr q 113 S.a :: itup t rdy :: frame L [] :: cel6 L (some (.ref t)) :: cel7 L (some (.ref S.a)) :: l) (St.perm H7 (by exact permP_perm [1, 1, 1, 1, 1, 1] _)) G hv hx (by ((with_reducible refine Nat.le_trans (by with_reducible assumption) ?_); exact Nat.le_of_ble_eq_true rfl)) (Nat.zero_le _) hs hsx (by ((with_reducible refine Nat.lt_trans (by with_reducible assumption) ?_); exact Nat.le_of_ble_eq_true rfl)) hh hpre fun t4' s8 H8 => ?_
  dsimp only
  exact h t4' _ (St.sub (St.perm H8 (l' := methr q 113 S.a :: tsi S :: tsd w S (.ref r) (.int c t3) (.int (f + rdy.length) t4') :: n2i S 6 :: nis S ((rdy.foldl (doneOne succ) (np, [])).1) :: sls S succ :: ilst r (rdy.foldl (doneOne succ) (np, [])).2 :: itup t rdy :: frame L [] :: cel6 L (some (.ref t)) :: cel7 L (some (.ref S.a)) :: l) (by exact permP_perm [6] _)) (by exact sub_of [false] rfl))
set_option tactic.hygienic true in
theorem turn6 {x : Int} {rest : List Int} (X : LawAt w A B mg L fa) (hz : (x :: rest).length ≤ 6) (hx0 : 0 ≤ x) (hx6 : x < 6) (hnp : np x.toNat = -2)
    (H : St B s (tsi S :: tsd w S (.ref r) (.int c t3) (.int f t4) :: n2i S 6 :: nis S np :: sls S succ :: ilst r nxt :: itup t (x :: rest) :: frame L [] :: cel6 L (some (.ref t)) :: cel7 L (some (.ref S.a)) :: tabq 160 lamq cs :: l))
    (h : ∀ cs s', St B s' (tsi S :: tsd w S (.ref r) (.int c t3) (.int f t4) :: n2i S 6 :: nis S np :: sls S succ :: ilst r nxt :: itup t (x :: rest) :: frame L [] :: cel6 L (some (.ref t)) :: cel7 L (some (.ref S.a)) :: tabq 160 lamq cs :: l) → Q .next s') :
    wpAny (model PySem.Challenge.pw_xc0002_01 w) A (exec (turnS 6) (lawE L fa)) Q (fun _ _ => False) s := by
  have e : turnS 6 = turnS 6 := rfl
  conv at e => rhs; whnf
  rw [e]; clear e
  have G := X.G
  have hh := X.hh
  have hdep := X.dep
  have hun := X.un
  (with_reducible refine wpAny_If ?_); (with_reducible refine wpAny_isTrue_Not ?_); (with_reducible show wpAny _ _ (isTrue _ _ _) _ _ _); refine wpAny_isTrue_value ?_; (with_reducible show wpAny _ _ (eval (Expr.Call (Expr.Name _ _) _ _ _) _) _ _ _); refine wpAny_Call_ofName ?_; (with_reducible show wpAny _ _ (eval (Expr.Name _ _) (envOfC _ _ _ _ _)) _ _ _); refine nmC_g (by with_reducible assumption) (by with_reducible assumption) (by k_is) ?_ (by rfl) (by rfl) (by decide); (with_reducible show wpAny _ _ (callWith _ (Value.ref _) _ (backTo _ (starEach (_ :: _) _)) _) _ _ _); refine cw_fn (by with_reducible assumption) (by k_is) ?_ (by rfl) (by rfl) (by rfl); (with_reducible show wpAny _ _ (spliced (backTo _ (starEach (_ :: _) _))) _ _ _); refine wpAny_items_cons ?_
  refine sl_lambda (q := lamq) H (O := by exact .there (.there (.there (.there (.there (.there (.there (.there (.there (.there (.here))))))))))) X.ln rfl rfl rfl rfl rfl ?_
  intro lf c' cs' s4 hc' H4
  (with_reducible show wpAny _ _ (spliced (backTo _ (starEach [] _))) _ _ _); refine wpAny_items_nil ?_; (with_reducible show Frag.In _ _ ∧ wpAny _ _ _ _ _ _); refine ⟨St.kin (by with_reducible assumption) (by with_reducible assumption), ?_⟩
  refine wpAny_call (refused_ok H4 G (.head _) (by ((with_reducible refine Nat.lt_trans (by with_reducible assumption) ?_); exact Nat.le_of_ble_eq_true rfl)) hh X.fr (law_frl (by with_reducible exact mem_9)) ?_ ?_)
  · intro A' outerE' L1 s5 hA' hh' hF' hFl' H5
    refine sl_callLam H5 (.tail _ (.head _)) (.tail _ (.tail _ (.head _))) hc' G.lim (by rw [hA']; show A.depth + 1 < 1000; (first | lia | omega)) (fun _ _ => rfl) ?_ (by rfl) (by rfl) (by rfl) (by decide)
    intro L2 s6 H6
    (with_reducible show wpAny _ _ (eval (Expr.Call (Expr.Attribute _ _ _) _ _ _) _) _ _ _); refine MethodCall_ ?_; (with_reducible show wpAny _ _ (eval (Expr.Name _ _) (envX _ _ _ _ _ _)) _ _ _); refine nmX_f (by with_reducible assumption) (by rfl) (by (refine List.mem_cons_of_mem _ ?_; refine List.mem_cons_of_mem _ ?_; refine List.mem_cons_of_mem _ ?_; refine List.mem_cons_of_mem _ ?_; with_reducible exact mem_9)) ?_ (by rfl) (by rfl) (by decide) (by decide)
    refine gm_ts (f := 113) (by with_reducible assumption) (by with_reducible assumption) (by with_reducible exact mem_4) (by with_reducible exact mem_5) (by k_is) (by k_is) (by k_is) (fun _ _ _ _ _ => rfl) ?_
    (with_reducible show wpAny _ _ (callWith _ (Value.ref _) _ (backTo _ (starEach (_ :: _) _)) _) _ _ _); refine cw_fn (by with_reducible assumption) (by k_is) ?_ (by rfl) (by rfl) (by rfl); dsimp only; (with_reducible show wpAny _ _ (spliced (backTo _ (starEach (_ :: _) _))) _ _ _); refine wpAny_items_cons ?_; (with_reducible refine Subscript_ ?_); (with_reducible show wpAny _ _ (eval (Expr.Name _ _) (envX _ _ _ _ _ _)) _ _ _); refine nmX_f (by with_reducible assumption) (by rfl) (by (refine List.mem_cons_of_mem _ ?_; refine List.mem_cons_of_mem _ ?_; refine List.mem_cons_of_mem _ ?_; with_reducible exact mem_9)) ?_ (by rfl) (by rfl) (by decide) (by decide); (with_reducible show wpAny _ _ (eval (Expr.Constant (Const.int _) _ _) _) _ _ _); refine const_int (by with_reducible assumption) ?_; intro _ _ _
    refine sub_itup (by with_reducible assumption) (by (refine List.mem_cons_of_mem _ ?_; with_reducible exact mem_9)) (by (first | lia | omega)) (by (first | lia | omega)) (by show (0 : Int).toNat < _; simp) ?_ (by with_unfolding_all rfl)
    intro t5 s7 H7
    (with_reducible show wpAny _ _ (spliced (backTo _ (starEach [] _))) _ _ _); refine wpAny_items_nil ?_; (with_reducible show Frag.In _ _ ∧ wpAny _ _ _ _ _ _); refine ⟨St.kin (by with_reducible assumption) (by with_reducible assumption), ?_⟩
    refine wpAny_call (done_err (x := x) (vs := [.int x t5]) (S := S) (r := r) (rdy := nxt) (out := c) (fin := f) (t3 := t3) (t4 := t4) (np := np) (succ := succ) (l := frame L2 [] :: frame L1 [(Str.ofString "what", .ref lf)] :: lamr lf lamq _ _ _ _ c' :: tabq 160 lamq cs' :: itup t (x :: rest) :: frame L [] :: cel6 L (some (.ref t)) :: cel7 L (some (.ref S.a)) :: l)
      (St.perm H7 (by exact permP_perm [4, 4, 4, 4, 4, 4] _)) G (.cons _ _ .nil) (.inr ⟨⟨hx0, hx6⟩, .inr hnp⟩) (by show A'.depth + 1 < 900; (first | lia | omega)) hh' (Around.frames_deeper hF') ?_ ?_)
    · exact FrL.perm (FrL.under (L := L2) (fs := []) hFl' (fun h => ScopeKind.noConfusion h) rfl) (by exact permP_perm [4, 4, 4, 4, 4, 4] _)
    · intro e t T s8 H8
      dsimp only
      refine leave_next (L := L2) (Around.frames_deeper hF') (FrL.sub (FrL.perm (FrL.under (L := L2) (fs := []) hFl' (fun h => ScopeKind.noConfusion h) rfl) (by exact permP_perm [4, 4, 4, 4, 4, 4] _)) fun x hx => .tail _ (.tail _ hx)) rfl H8 .here (.tail _ (.head _)) ?_
      intro T' s9 H9
      refine ⟨e, t, T', rfl, ?_⟩
      exact St.sub (St.perm H9 (l' := excr e (.type "ValueError") (.ref t) (.ref T') :: tbr T' .none :: tbr T .none :: frame L2 [] :: frame L1 [(Str.ofString "what", .ref lf)] :: lamr lf lamq _ _ _ _ c' :: tabq 160 lamq cs' :: tsi S :: tsd w S (.ref r) (.int c t3) (.int f t4) :: n2i S 6 :: nis S np :: sls S succ :: ilst r nxt :: itup _ (x :: rest) :: frame L [] :: cel6 L _ :: cel7 L (some (.ref S.a)) :: l) (by exact permP_perm [0, 0, 0, 6, 6, 6, 6] _)) (by exact sub_of [true, true, false, false] rfl)
  · intro s5 H5
    dsimp only
    (with_reducible refine wpAny_truthy_bool ?_)
    refine b_ff ?_ (by rfl)
    (with_reducible refine wpAny_execs_nil ?_)
    exact h cs' _ (St.sub (St.perm H5 (l' := lamr lf lamq _ _ _ _ c' :: tsi S :: tsd w S (.ref r) (.int c t3) (.int f t4) :: n2i S 6 :: nis S np :: sls S succ :: ilst r nxt :: itup t (x :: rest) :: frame L [] :: cel6 L (some (.ref t)) :: cel7 L (some (.ref S.a)) :: tabq 160 lamq cs' :: l) (by exact permP_perm [0, 1, 1, 1, 1, 1, 1, 1, 1, 1, 1] _)) (by exact sub_of [false] rfl))
end
end
section
open PySem PySem.W PyProof.Rows PySem.Calls PySem.Spec
variable {needs : Nat → List Int}
theorem deepF_pos {ρ : Int → Nat} (hρ : ∀ k : Nat, k < 6 → ∀ y ∈ needs k, ρ (k : Int) < ρ y) (h6 : ∀ x : Int, 0 ≤ x → x < 6 → ρ x < 6) (hn : NOk needs) :
    ∀ (f : Nat) (x : Int) (seen : List Int), 0 ≤ x → x < 6 → 6 ≤ f + ρ x → (∀ y ∈ seen, ρ y < ρ x) → 1 ≤ deepF needs f x seen := by
  intro f
  induction f with
  | zero => intro x seen h0 hx hf _; have := h6 x h0 hx; (first | lia | omega)
  | succ f ih =>
    intro x seen h0 hx hf hs
    unfold deepF
    have hns : x ∉ seen := fun h => by have := hs x h; (first | lia | omega)
    rw [if_neg hns]
    have hz : 0 ∉ (needs x.toNat).map (fun y => deepF needs f y (seen ++ [x])) := by
      intro h
      obtain ⟨y, hy, e⟩ := List.mem_map.mp h
      have hr := hn.rng x.toNat y hy
      have hl := hρ x.toNat (by with_reducible exact lt6_nat (by with_reducible assumption) (by with_reducible assumption)) y hy
      have ex : ((x.toNat : Nat) : Int) = x := by with_reducible exact nat_eq (by with_reducible assumption)
      rw [ex] at hl
      have := ih y (seen ++ [x]) hr.1 hr.2 (by (first | lia | omega)) (fun z hz => by
        rcases List.mem_append.mp hz with h | h
        · have := hs z h; (first | lia | omega)
        · rw [List.mem_singleton.mp h]; exact hl)
      (first | lia | omega)
    rw [if_neg hz]
    have := (foldl_max_ge ((needs x.toNat).map (fun y => deepF needs f y (seen ++ [x])) ++ [0]) 0).1
    (first | lia | omega)
theorem deepF_le : ∀ (f : Nat) (x : Int) (seen : List Int), deepF needs f x seen ≤ f
  | 0, _, _ => Int.le_refl _
  | f + 1, x, seen => by
    unfold deepF
    split
    · (first | lia | omega)
    · split
      · (first | lia | omega)
      · rcases (foldl_max_ge ((needs x.toNat).map (fun y => deepF needs f y (seen ++ [x])) ++ [0]) 0).2.2 with h | h
        · rw [h]; (first | lia | omega)
        · rcases List.mem_append.mp h with h | h
          · obtain ⟨y, _, e⟩ := List.mem_map.mp h
            have := deepF_le f y (seen ++ [x])
            (first | lia | omega)
          · have := List.mem_singleton.mp h; (first | lia | omega)
theorem deepF_nonneg : ∀ (f : Nat) (x : Int) (seen : List Int), 0 ≤ deepF needs f x seen
  | 0, _, _ => Int.le_refl _
  | f + 1, x, seen => by
    unfold deepF
    split
    · (first | lia | omega)
    · split
      · (first | lia | omega)
      · have := (foldl_max_ge ((needs x.toNat).map (fun y => deepF needs f y (seen ++ [x])) ++ [0]) 0).1
        (first | lia | omega)
theorem deepF_same : ∀ (f f' : Nat) (x : Int) (seen seen' : List Int), f ≤ f' → (∀ y ∈ seen', y ∈ seen) → deepF needs f x seen ≠ 0 → deepF needs f' x seen' = deepF needs f x seen
  | 0, _, _, _, _, _, _, h => absurd rfl h
  | f + 1, 0, _, _, _, hf, _, _ => absurd hf (by (first | lia | omega))
  | f + 1, f' + 1, x, seen, seen', hf, hs, h => by
    unfold deepF at h ⊢
    by_cases h1 : x ∈ seen
    · rw [if_pos h1] at h; exact absurd rfl h
    · rw [if_neg h1] at h
      by_cases h2 : 0 ∈ (needs x.toNat).map (fun y => deepF needs f y (seen ++ [x]))
      · rw [if_pos h2] at h; exact absurd rfl h
      · rw [if_neg h1, if_neg h2, if_neg (fun q => h1 (hs x q))]
        have e : (needs x.toNat).map (fun y => deepF needs f' y (seen' ++ [x])) = (needs x.toNat).map (fun y => deepF needs f y (seen ++ [x])) := by
          refine List.map_congr_left fun y hy => ?_
          refine deepF_same f f' y _ _ (by (first | lia | omega)) (fun z hz => ?_) (fun q => h2 (List.mem_map.mpr ⟨y, hy, q⟩))
          rcases List.mem_append.mp hz with q | q
          · exact List.mem_append_left _ (hs z q)
          · exact List.mem_append_right _ q
        rw [e, if_neg h2]
noncomputable abbrev dp (needs : Nat → List Int) (x : Int) : Int := deepF needs 7 x []
set_option tactic.hygienic true in
structure Deep (needs : Nat → List Int) (d : Int → Int) : Prop where
  pos : ∀ x, 0 ≤ x → x < 6 → 1 ≤ d x
  low : ∀ k : Nat, k < 6 → ∀ y ∈ needs k, d y < d (k : Int)
  next : ∀ k : Nat, k < 6 → d (k : Int) ≠ 1 → ∃ y ∈ needs k, d (k : Int) = d y + 1
  six : ∀ x, d x ≤ 7
theorem deepL_mem {n : Nat} {v : Int} : v ∈ deepL needs n ↔ ∃ k : Nat, k < n ∧ dp needs (k : Int) = v := by
  unfold deepL
  rw [List.mem_map]
  simp only [List.mem_range]
theorem deep_of (hn : NOk needs) (h : 0 ∉ deepL needs 6) : Deep needs (dp needs) := by
  have hp : ∀ k : Nat, k < 6 → dp needs (k : Int) ≠ 0 := fun k hk e => h (deepL_mem.mpr ⟨k, hk, e⟩)
  have key : ∀ k : Nat, k < 6 → dp needs (k : Int) = 1 + ((needs k).map (dp needs) ++ [0]).foldl max 0 := by
    intro k hk
    have h0 := hp k hk
    have e : dp needs (k : Int) = deepF needs (6 + 1) (k : Int) [] := rfl
    rw [e] at h0 ⊢
    unfold deepF at h0 ⊢
    rw [if_neg List.not_mem_nil] at h0 ⊢
    have ek : ((k : Int)).toNat = k := by with_reducible exact Int.toNat_natCast _
    rw [ek] at h0 ⊢
    by_cases h2 : 0 ∈ (needs k).map (fun y => deepF needs 6 y ([] ++ [(k : Int)]))
    · rw [if_pos h2] at h0; exact absurd rfl h0
    · rw [if_neg h2]
      have e2 : (needs k).map (fun y => deepF needs 6 y ([] ++ [(k : Int)])) = (needs k).map (dp needs) := by
        refine List.map_congr_left fun y hy => ?_
        exact (deepF_same 6 7 y _ _ (by (first | lia | omega)) (fun _ q => absurd q List.not_mem_nil) (fun q => h2 (List.mem_map.mpr ⟨y, hy, q⟩))).symm
      rw [e2]
  have hpos : ∀ x : Int, 0 ≤ x → x < 6 → 1 ≤ dp needs x := fun x h0 h6 => by
    have e : ((x.toNat : Nat) : Int) = x := by with_reducible exact nat_eq (by with_reducible assumption)
    have h1 := hp x.toNat (by with_reducible exact lt6_nat (by with_reducible assumption) (by with_reducible assumption))
    rw [e] at h1
    have h2 : 0 ≤ dp needs x := deepF_nonneg (needs := needs) 7 x []
    (first | lia | omega)
  refine ⟨hpos, fun k hk y hy => ?_, fun k hk h1 => ?_, fun x => deepF_le 7 x []⟩
  · rw [key k hk]
    have := (foldl_max_ge ((needs k).map (dp needs) ++ [0]) 0).2.1 _ (List.mem_append_left _ (List.mem_map_of_mem hy))
    (first | lia | omega)
  · have hk' := key k hk
    rcases (foldl_max_ge ((needs k).map (dp needs) ++ [0]) 0).2.2 with h | h
    · rw [h] at hk'; exact absurd hk' h1
    · rcases List.mem_append.mp h with h | h
      · obtain ⟨y, hy, e⟩ := List.mem_map.mp h
        exact ⟨y, hy, by rw [hk', e]; (first | lia | omega)⟩
      · have := List.mem_singleton.mp h
        rw [this] at hk'; exact absurd hk' h1
theorem not_acyc (hn : NOk needs) (h : 0 ∈ deepL needs 6) : ¬ Acyc (built needs).2 := by
  rintro ⟨fin, hc, ha, hnd, hr⟩
  obtain ⟨k, hk, e⟩ := deepL_mem.mp h
  have hlen : fin.length ≤ 6 := nodup_len 6 fin hnd hr
  have hmem : ∀ x : Int, 0 ≤ x → x < 6 → x ∈ fin := fun x h0 h6 => by
    have := ha x.toNat (by with_reducible exact lt6_nat (by with_reducible assumption) (by with_reducible assumption))
    have e : ((x.toNat : Nat) : Int) = x := by with_reducible exact nat_eq (by with_reducible assumption)
    rwa [e] at this
  have h6 : ∀ x : Int, 0 ≤ x → x < 6 → fin.idxOf x < 6 := fun x h0 h6 => by
    have := List.idxOf_lt_length_of_mem (hmem x h0 h6)
    (first | lia | omega)
  have hρ : ∀ k : Nat, k < 6 → ∀ y ∈ needs k, fin.idxOf (k : Int) < fin.idxOf y := by
    intro k hk y hy
    have hy6 := hn.rng k y hy
    have hi := List.idxOf_lt_length_of_mem (hmem y hy6.1 hy6.2)
    have hz := hc (fin.idxOf y) hi (k : Int) (by
      rw [List.getElem_idxOf hi]
      exact (built_mem (k : Int) y.toNat).mpr ⟨k, hk, rfl, y, hy, rfl⟩)
    obtain ⟨j, hj, ej⟩ := List.mem_take_iff_getElem.mp hz
    have hj' : j < fin.length := by (first | lia | omega)
    have e3 : fin.idxOf (k : Int) = j := by
      rw [← ej]
      exact hnd.idxOf_getElem j hj'
    (first | lia | omega)
  have := deepF_pos hρ h6 hn 7 (k : Int) [] (by with_reducible exact Int.natCast_nonneg _) (by with_reducible exact lt6_int (by with_reducible assumption)) (by (first | lia | omega)) (fun _ q => absurd q List.not_mem_nil)
  have e' : deepF needs 7 (k : Int) [] = 0 := e
  (first | lia | omega)
theorem no_ring {d : Int → Int} (hn : NOk needs) (hd : Deep needs d) (ring : List Int) : ¬ IsRing (built needs).2 ring := by
  rintro ⟨x, u, rfl, hc, hl, hnd, hr⟩
  have key : ∀ (u : List Int) (x z : Int), (∀ y ∈ u, 0 ≤ y ∧ y < 6) → ChainR (built needs).2 (x :: u) → u.getLast? = some z → d z < d x := by
    intro u
    induction u with
    | nil => intro x z _ _ h; simp at h
    | cons y u ih =>
      intro x z hr hc hl
      have hy := hr y (.head _)
      obtain ⟨k, hk, ek, y', hy', e⟩ := (built_mem x y.toNat).mp hc.1
      have := hn.rng k y' hy'
      have e2 : y' = y := by (first | lia | omega)
      subst e2
      have h1 := hd.low k hk y' hy'
      rw [← ek] at h1
      cases u with
      | nil => simp at hl; rw [← hl]; exact h1
      | cons w u =>
        have := ih y' z (fun a ha => hr a (.tail _ ha)) hc.2 (by simpa using hl)
        (first | lia | omega)
  have := key u x x hr hc hl
  (first | lia | omega)
end
section
open PySem PySem.W PyProof.Rows PySem.Calls PySem.Spec
variable {needs : Nat → List Int}
set_option tactic.hygienic true in
theorem addE_1 (st : Edges) (x y : Int) (j : Nat) : (addE st x y).1 j = st.1 j + if j = x.toNat then 1 else 0 := by
  unfold addE set1; dsimp only; split
  · rename_i h; rw [h]
  · (first | lia | omega)
theorem addEs_1 (x : Int) (j : Nat) : ∀ (ys : List Int) (st : Edges), (ys.foldl (fun st y => addE st x y) st).1 j = st.1 j + if j = x.toNat then (ys.length : Int) else 0
  | [], st => by simp
  | y :: ys, st => by
    rw [List.foldl_cons, addEs_1 x j ys, addE_1, List.length_cons]
    split <;> (first | lia | omega)
theorem addRows_1 (j : Nat) : ∀ (n : Nat) (st : Edges), ((List.range n).foldl (addRow needs) st).1 j = st.1 j + if j < n then ((needs j).length : Int) else 0
  | 0, st => by simp
  | n + 1, st => by
    rw [List.range_succ, List.foldl_append, List.foldl_cons, List.foldl_nil]
    have h := addEs_1 (n : Int) j (needs n) ((List.range n).foldl (addRow needs) st)
    unfold addRow at h ⊢
    rw [h]
    have h2 := addRows_1 j n st
    unfold addRow at h2
    rw [h2]
    have e : ((n : Int)).toNat = n := by with_reducible exact Int.toNat_natCast _
    rw [e]
    by_cases q : j = n
    · subst q; rw [if_neg (Nat.lt_irrefl _), if_pos rfl, if_pos (Nat.lt_succ_self _)]; (first | lia | omega)
    · rw [if_neg q]
      by_cases q2 : j < n
      · rw [if_pos q2, if_pos (by (first | lia | omega))]; (first | lia | omega)
      · rw [if_neg q2, if_neg (by (first | lia | omega))]; (first | lia | omega)
theorem built_np (k : Nat) (hk : k < 6) : (built needs).1 k = ((needs k).length : Int) := by
  unfold built
  rw [addRows_1, if_pos hk]
  show (0 : Int) + _ = _
  (first | lia | omega)
theorem addEs_2 (x : Int) (j : Nat) : ∀ (ys : List Int) (st : Edges), ys.Nodup → (∀ y ∈ ys, 0 ≤ y) → (ys.foldl (fun st y => addE st x y) st).2 j = st.2 j ++ if (j : Int) ∈ ys then [x] else []
  | [], st, _, _ => by simp
  | y :: ys, st, hn, h0 => by
    obtain ⟨h1, h2⟩ := List.nodup_cons.mp hn
    rw [List.foldl_cons, addEs_2 x j ys _ h2 fun z hz => h0 z (.tail _ hz)]
    have hy := h0 y (.head _)
    have e : (addE st x y).2 j = st.2 j ++ if (j : Int) = y then [x] else [] := by
      unfold addE; dsimp only
      by_cases q : j = y.toNat
      · rw [if_pos q, if_pos (by (first | lia | omega))]
      · rw [if_neg q, if_neg (by (first | lia | omega)), List.append_nil]
    rw [e]
    by_cases q : (j : Int) = y
    · rw [if_pos q, q, if_neg h1, if_pos (.head _), List.append_nil]
    · rw [if_neg q, List.append_nil]
      by_cases q2 : (j : Int) ∈ ys
      · rw [if_pos q2, if_pos (.tail _ q2)]
      · rw [if_neg q2, if_neg fun h => by rcases List.mem_cons.mp h with h | h; exact q h; exact q2 h]
theorem addRows_2 (hn : NOk needs) (j : Nat) : ∀ (n : Nat) (st : Edges), ((List.range n).foldl (addRow needs) st).2 j = st.2 j ++ ((List.range n).filter fun k => decide ((j : Int) ∈ needs k)).map fun (k : Nat) => (k : Int)
  | 0, st => by simp
  | n + 1, st => by
    rw [List.range_succ, List.foldl_append, List.foldl_cons, List.foldl_nil, List.filter_append, List.map_append, ← List.append_assoc, ← addRows_2 hn j n st]
    have h := addEs_2 (n : Int) j (needs n) ((List.range n).foldl (addRow needs) st) (hn.nd n) fun y hy => (hn.rng n y hy).1
    unfold addRow at h ⊢
    rw [h]
    congr 1
    by_cases q : (j : Int) ∈ needs n
    · rw [if_pos q, List.filter_cons_of_pos (p := fun k => decide ((j : Int) ∈ needs k)) (decide_eq_true q)]; rfl
    · rw [if_neg q, List.filter_cons_of_neg (p := fun k => decide ((j : Int) ∈ needs k)) (by simpa using q)]; rfl
theorem built_succ (hn : NOk needs) (j : Nat) : (built needs).2 j = ((List.range 6).filter fun k => decide ((j : Int) ∈ needs k)).map fun (k : Nat) => (k : Int) := by
  unfold built
  rw [addRows_2 hn]
  show [] ++ _ = _
  rw [List.nil_append]
theorem built_nodup (hn : NOk needs) (j : Nat) : ((built needs).2 j).Nodup := by
  rw [built_succ hn]
  exact List.Pairwise.map _ (fun a b h e => h (by (first | lia | omega))) (List.Pairwise.filter _ List.nodup_range)
theorem built_mem' (hn : NOk needs) {v x : Int} (hv : 0 ≤ v) : x ∈ (built needs).2 v.toNat ↔ 0 ≤ x ∧ x < 6 ∧ v ∈ needs x.toNat := by
  rw [built_mem]
  constructor
  · rintro ⟨k, hk, rfl, y, hy, e⟩
    have := hn.rng k y hy
    have e2 : y = v := by (first | lia | omega)
    subst e2
    exact ⟨by (first | lia | omega), by (first | lia | omega), by simpa using hy⟩
  · rintro ⟨h0, h6, h⟩
    exact ⟨x.toNat, by (first | lia | omega), by (first | lia | omega), v, h, rfl⟩
theorem built_len (hn : NOk needs) (k : Nat) : ((built needs).2 k).length ≤ 6 := by
  rw [built_succ hn, List.length_map]
  exact Nat.le_trans (List.length_filter_le _ _) (by simp)
theorem lows_eq : ∀ (ys : List Int) (st : Kahn), ys.Nodup → (∀ y ∈ ys, 0 ≤ y) →
    (∀ k : Nat, (ys.foldl low st).1 k = if (k : Int) ∈ ys then st.1 k - 1 else st.1 k) ∧ (ys.foldl low st).2 = st.2 ++ ys.filter fun y => decide (st.1 y.toNat - 1 = 0)
  | [], st, _, _ => by simp
  | y :: ys, st, hn, h0 => by
    obtain ⟨h1, h2⟩ := List.nodup_cons.mp hn
    have hy := h0 y (.head _)
    obtain ⟨a1, a2⟩ := lows_eq ys (low st y) h2 fun z hz => h0 z (.tail _ hz)
    rw [List.foldl_cons]
    refine ⟨fun k => ?_, ?_⟩
    · rw [a1 k]
      have e : (low st y).1 k = if (k : Int) = y then st.1 k - 1 else st.1 k := by
        unfold low set1; dsimp only
        by_cases q : k = y.toNat
        · rw [if_pos q, if_pos (by (first | lia | omega)), q]
        · rw [if_neg q, if_neg (by (first | lia | omega))]
      rw [e]
      by_cases q : (k : Int) = y
      · rw [if_pos q, if_neg (by rw [q]; exact h1), if_pos (by rw [q]; exact .head _)]
      · rw [if_neg q]
        by_cases q2 : (k : Int) ∈ ys
        · rw [if_pos q2, if_pos (.tail _ q2)]
        · rw [if_neg q2, if_neg fun h => by rcases List.mem_cons.mp h with h | h; exact q h; exact q2 h]
    · rw [a2]
      have e : ys.filter (fun z => decide ((low st y).1 z.toNat - 1 = 0)) = ys.filter fun z => decide (st.1 z.toNat - 1 = 0) := by
        refine List.filter_congr fun z hz => ?_
        have hz0 := h0 z (.tail _ hz)
        have hzy : z ≠ y := fun e => h1 (e ▸ hz)
        have e2 : (low st y).1 z.toNat = st.1 z.toNat := set1_ne (by (first | lia | omega))
        simp only [e2]
      rw [e]
      unfold low; dsimp only
      by_cases q : st.1 y.toNat - 1 = 0
      · rw [if_pos q, List.filter_cons_of_pos (p := fun (y : Int) => decide (st.1 y.toNat - 1 = 0)) (decide_eq_true q), List.append_assoc]; rfl
      · rw [if_neg q, List.filter_cons_of_neg (p := fun (y : Int) => decide (st.1 y.toNat - 1 = 0)) (by simpa using q)]
variable {d : Int → Int}
structure RInv (needs : Nat → List Int) (d : Int → Int) (t : Int) (np : Nat → Int) (rdy : List Int) : Prop where
  np : ∀ k : Nat, k < 6 → np k = if d (k : Int) < t then -2 else (((needs k).filter fun y => decide (t ≤ d y)).length : Int)
  nd : rdy.Nodup
  mem : ∀ x, x ∈ rdy ↔ 0 ≤ x ∧ x < 6 ∧ d x = t
structure MInv (needs : Nat → List Int) (d : Int → Int) (t : Int) (pre : List Int) (st : Kahn) : Prop where
  np : ∀ k : Nat, k < 6 → st.1 k = if d (k : Int) < t ∨ (k : Int) ∈ pre then -2 else if d (k : Int) = t then -1 else (((needs k).filter fun y => decide (t ≤ d y ∧ y ∉ pre)).length : Int)
  nd : st.2.Nodup
  mem : ∀ x, x ∈ st.2 ↔ 0 ≤ x ∧ x < 6 ∧ t < d x ∧ ∀ y ∈ needs x.toNat, d y < t ∨ y ∈ pre
theorem count_out {l : List Int} (hn : l.Nodup) {P : Int → Prop} [DecidablePred P] {pre : List Int} {v : Int} (hp : P v) (hv : v ∉ pre) :
    ((l.filter fun y => decide (P y ∧ y ∉ pre ++ [v])).length : Int) = ((l.filter fun y => decide (P y ∧ y ∉ pre)).length : Int) - if v ∈ l then 1 else 0 := by
  induction l with
  | nil => simp
  | cons a l ih =>
    obtain ⟨h1, h2⟩ := List.nodup_cons.mp hn
    have ih := ih h2
    by_cases e : a = v
    · subst e
      rw [if_neg h1] at ih
      rw [if_pos (.head _), List.filter_cons_of_neg (by simp), List.filter_cons_of_pos (by simpa using ⟨hp, hv⟩), List.length_cons]
      (first | lia | omega)
    · have q : (v ∈ a :: l) ↔ v ∈ l := ⟨fun h => (List.mem_cons.mp h).resolve_left fun z => e z.symm, .tail _⟩
      simp only [q]
      by_cases c : P a ∧ a ∉ pre
      · rw [List.filter_cons_of_pos (by simpa using ⟨c.1, c.2, e⟩), List.filter_cons_of_pos (by simpa using c), List.length_cons, List.length_cons]
        (first | lia | omega)
      · rw [List.filter_cons_of_neg (by simp; intro a1 a2; exact absurd ⟨a1, a2⟩ c), List.filter_cons_of_neg (by simpa using c)]
        exact ih
theorem MInv.step (hn : NOk needs) (hd : Deep needs d) {t : Int} {pre : List Int} {st : Kahn} (M : MInv needs d t pre st) (hpre : ∀ x ∈ pre, d x = t) {v : Int} (h0 : 0 ≤ v) (h6 : v < 6) (hdv : d v = t) (hv : v ∉ pre) :
    MInv needs d t (pre ++ [v]) (doneOne (built needs).2 st v) := by
  obtain ⟨a1, a2⟩ := lows_eq ((built needs).2 v.toNat) (set1 st.1 v.toNat (-2), st.2) (built_nodup hn _) (fun y hy => ((built_mem' hn h0).mp hy).1)
  have hmem : ∀ x, x ∈ (built needs).2 v.toNat ↔ 0 ≤ x ∧ x < 6 ∧ v ∈ needs x.toNat := fun x => built_mem' hn h0
  have hlow : ∀ x, x ∈ (built needs).2 v.toNat → t < d x ∧ x ≠ v := fun x hx => by
    obtain ⟨b1, b2, b3⟩ := (hmem x).mp hx
    have := hd.low x.toNat (by with_reducible exact lt6_nat (by with_reducible assumption) (by with_reducible assumption)) v b3
    have e : ((x.toNat : Nat) : Int) = x := by with_reducible exact nat_eq (by with_reducible assumption)
    rw [e, hdv] at this
    exact ⟨this, fun e => by rw [e, hdv] at this; (first | lia | omega)⟩
  have hset : ∀ x, x ∈ (built needs).2 v.toNat → set1 st.1 v.toNat (-2) x.toNat = st.1 x.toNat := fun x hx => by
    have b := ((hmem x).mp hx).1
    have c := (hlow x hx).2
    exact set1_ne (by (first | lia | omega))
  have hcnt : ∀ k : Nat, k < 6 → t < d (k : Int) → (((needs k).filter fun y => decide (t ≤ d y ∧ y ∉ pre ++ [v])).length : Int) = st.1 k - if v ∈ needs k then 1 else 0 := by
    intro k hk hlt
    have hnp : ¬ (d (k : Int) < t ∨ (k : Int) ∈ pre) := by
      rintro (h | h)
      · (first | lia | omega)
      · have := hpre _ h; (first | lia | omega)
    rw [count_out (P := fun y => t ≤ d y) (hn.nd k) (by rw [hdv]; exact Int.le_refl _) hv, M.np k hk, if_neg hnp, if_neg (by (first | lia | omega) : ¬ d (k : Int) = t)]
  unfold doneOne
  refine ⟨fun k hk => ?_, ?_, fun x => ?_⟩
  · rw [a1 k]
    by_cases hs : (k : Int) ∈ (built needs).2 v.toNat
    · rw [if_pos hs]
      obtain ⟨b1, b2⟩ := hlow _ hs
      have b3 := ((hmem _).mp hs).2.2
      have ek : ((k : Int)).toNat = k := by with_reducible exact Int.toNat_natCast _
      rw [ek] at b3
      have b4 := hset _ hs
      rw [ek] at b4
      show set1 st.1 v.toNat (-2) k - 1 = _
      rw [b4]
      have hnp : ¬ (d (k : Int) < t ∨ (k : Int) ∈ pre ++ [v]) := by
        rintro (h | h)
        · (first | lia | omega)
        · rcases List.mem_append.mp h with h | h
          · have := hpre _ h; (first | lia | omega)
          · exact b2 (List.mem_singleton.mp h)
      rw [if_neg hnp, if_neg (by (first | lia | omega)), hcnt k hk b1, if_pos b3]
    · rw [if_neg hs]
      show set1 st.1 v.toNat (-2) k = _
      have hnv : v ∉ needs k := fun h => hs ((hmem _).mpr ⟨by (first | lia | omega), by (first | lia | omega), by simpa using h⟩)
      by_cases e : k = v.toNat
      · subst e
        rw [set1_self, if_pos (.inr (by rw [show ((v.toNat : Nat) : Int) = v by (first | lia | omega)]; simp))]
      · rw [set1_ne e]
        have ev : (k : Int) ≠ v := by (first | lia | omega)
        have q : (k : Int) ∈ pre ++ [v] ↔ (k : Int) ∈ pre := by simp [ev]
        by_cases c : t < d (k : Int)
        · have e1 := hcnt k hk c
          rw [if_neg hnv] at e1
          rw [if_neg (by rw [q]; rintro (h | h); (first | lia | omega); have := hpre _ h; (first | lia | omega)), if_neg (by (first | lia | omega)), e1]
          (first | lia | omega)
        · rw [M.np k hk]
          simp only [q]
          by_cases c2 : d (k : Int) < t ∨ (k : Int) ∈ pre
          · rw [if_pos c2, if_pos c2]
          · rw [if_neg c2, if_neg c2]
            have : d (k : Int) = t := by (first | lia | omega)
            rw [if_pos this, if_pos this]
  · rw [a2, List.nodup_append]
    refine ⟨M.nd, List.Pairwise.filter _ (built_nodup hn _), fun a ha b hb e => ?_⟩
    subst e
    obtain ⟨c1, c2⟩ := List.mem_filter.mp hb
    obtain ⟨_, _, _, c3⟩ := (M.mem a).mp ha
    have c4 := ((hmem a).mp c1).2.2
    rcases c3 v c4 with h | h
    · (first | lia | omega)
    · exact hv h
  · rw [a2, List.mem_append, M.mem, List.mem_filter, hmem]
    have hzero : ∀ k : Nat, ((needs k).filter fun y => decide (t ≤ d y ∧ y ∉ pre ++ [v])).length = 0 ↔ ∀ y ∈ needs k, d y < t ∨ y ∈ pre ++ [v] := by
      intro k
      rw [List.length_eq_zero_iff, List.filter_eq_nil_iff]
      constructor
      · intro h y hy
        have := h y hy
        simp only [decide_eq_true_eq] at this
        by_cases c : y ∈ pre ++ [v]
        · exact .inr c
        · left
          by_cases q : t ≤ d y
          · exact absurd ⟨q, c⟩ this
          · (first | lia | omega)
      · intro h y hy
        simp only [decide_eq_true_eq]
        rintro ⟨b1, b2⟩
        rcases h y hy with q | q
        · (first | lia | omega)
        · exact b2 q
    constructor
    · rintro (⟨b1, b2, b3, b4⟩ | ⟨⟨b1, b2, b3⟩, b4⟩)
      · exact ⟨b1, b2, b3, fun y hy => (b4 y hy).imp id fun h => List.mem_append_left _ h⟩
      · have hs := (hmem x).mpr ⟨b1, b2, b3⟩
        obtain ⟨c1, c2⟩ := hlow x hs
        have b4 := of_decide_eq_true b4
        have c3 : set1 st.1 v.toNat (-2) x.toNat = st.1 x.toNat := hset x hs
        dsimp only at b4
        rw [c3] at b4
        have ex : ((x.toNat : Nat) : Int) = x := by with_reducible exact nat_eq (by with_reducible assumption)
        have c4 := hcnt x.toNat (by with_reducible exact lt6_nat (by with_reducible assumption) (by with_reducible assumption)) (by rw [ex]; exact c1)
        rw [if_pos b3, b4] at c4
        exact ⟨b1, b2, c1, (hzero _).mp (by (first | lia | omega))⟩
    · rintro ⟨b1, b2, b3, b4⟩
      by_cases c : v ∈ needs x.toNat
      · right
        refine ⟨⟨b1, b2, c⟩, decide_eq_true ?_⟩
        have hs := (hmem x).mpr ⟨b1, b2, c⟩
        dsimp only
        rw [hset x hs]
        have ex : ((x.toNat : Nat) : Int) = x := by with_reducible exact nat_eq (by with_reducible assumption)
        have c4 := hcnt x.toNat (by with_reducible exact lt6_nat (by with_reducible assumption) (by with_reducible assumption)) (by rw [ex]; exact b3)
        rw [if_pos c, (hzero _).mpr b4] at c4
        exact c4.symm
      · left
        refine ⟨b1, b2, b3, fun y hy => (b4 y hy).imp id fun h => ?_⟩
        rcases List.mem_append.mp h with h | h
        · exact h
        · exact absurd (List.mem_singleton.mp h ▸ hy) c
set_option tactic.hygienic true in
theorem RInv.start (hd : Deep needs d) {t : Int} (ht : 1 ≤ t) {np : Nat → Int} {rdy : List Int} (R : RInv needs d t np rdy) : MInv needs d t [] (outed np rdy, []) := by
  refine ⟨fun k hk => ?_, List.Pairwise.nil, fun x => ⟨fun h => absurd h List.not_mem_nil, ?_⟩⟩
  · show (if (k : Int) ∈ rdy then -1 else np k) = _
    have q : (k : Int) ∈ rdy ↔ d (k : Int) = t := by rw [R.mem]; exact ⟨fun h => h.2.2, fun h => ⟨by (first | lia | omega), by (first | lia | omega), h⟩⟩
    by_cases c : d (k : Int) = t
    · rw [if_pos (q.mpr c), if_neg (by rintro (h | h); (first | lia | omega); cases h), if_pos c]
    · rw [if_neg (fun h => c (q.mp h)), R.np k hk]
      by_cases c2 : d (k : Int) < t
      · rw [if_pos c2, if_pos (.inl c2)]
      · rw [if_neg c2, if_neg (by rintro (h | h); exact c2 h; cases h), if_neg c]
        simp
  · rintro ⟨b1, b2, b3, b4⟩
    exfalso
    have ex : ((x.toNat : Nat) : Int) = x := by with_reducible exact nat_eq (by with_reducible assumption)
    by_cases h1 : d x = 1
    · (first | lia | omega)
    · obtain ⟨y, hy, e⟩ := hd.next x.toNat (by with_reducible exact lt6_nat (by with_reducible assumption) (by with_reducible assumption)) (by rw [ex]; exact h1)
      rcases b4 y hy with h | h
      · rw [ex] at e; (first | lia | omega)
      · cases h
theorem RInv.at (hn : NOk needs) (hd : Deep needs d) {t : Int} (ht : 1 ≤ t) {np : Nat → Int} {rdy : List Int} (R : RInv needs d t np rdy) : ∀ i, i ≤ rdy.length → MInv needs d t (rdy.take i) ((rdy.take i).foldl (doneOne (built needs).2) (outed np rdy, []))
  | 0, _ => by rw [List.take_zero, List.foldl_nil]; exact R.start hd ht
  | i + 1, hi => by
    have M := R.at hn hd ht i (by (first | lia | omega))
    obtain ⟨b1, b2, b3⟩ := (R.mem rdy[i]).mp (List.getElem_mem hi)
    rw [foldl_take_succ (doneOne (built needs).2) (outed np rdy, []) rdy i hi, List.take_succ_eq_append_getElem hi]
    refine M.step hn hd (fun x hx => ((R.mem x).mp (List.mem_of_mem_take hx)).2.2) b1 b2 b3 fun h => ?_
    obtain ⟨j, hj, ej⟩ := List.mem_take_iff_getElem.mp h
    exact (List.pairwise_iff_getElem.mp R.nd j i (by (first | lia | omega)) hi (by (first | lia | omega))) ej
theorem RInv.pre (hn : NOk needs) (hd : Deep needs d) {t : Int} (ht : 1 ≤ t) {np : Nat → Int} {rdy : List Int} (R : RInv needs d t np rdy) (i : Nat) (hi : i < rdy.length) :
    ((rdy.take i).foldl (doneOne (built needs).2) (outed np rdy, [])).1 rdy[i].toNat = -1 := by
  have M := R.at hn hd ht i (by (first | lia | omega))
  obtain ⟨b1, b2, b3⟩ := (R.mem rdy[i]).mp (List.getElem_mem hi)
  have ex : ((rdy[i].toNat : Nat) : Int) = rdy[i] := by with_reducible exact nat_eq (by with_reducible assumption)
  rw [M.np _ (by with_reducible exact lt6_nat (by with_reducible assumption) (by with_reducible assumption)), ex, if_neg, if_pos b3]
  rintro (h | h)
  · (first | lia | omega)
  · obtain ⟨j, hj, ej⟩ := List.mem_take_iff_getElem.mp h
    exact (List.pairwise_iff_getElem.mp R.nd j i (by (first | lia | omega)) hi (by (first | lia | omega))) ej
set_option tactic.hygienic true in
theorem RInv.next (hn : NOk needs) (hd : Deep needs d) {t : Int} (ht : 1 ≤ t) {np : Nat → Int} {rdy : List Int} (R : RInv needs d t np rdy) :
    RInv needs d (t + 1) (rdy.foldl (doneOne (built needs).2) (outed np rdy, [])).1 (rdy.foldl (doneOne (built needs).2) (outed np rdy, [])).2 := by
  have M := R.at hn hd ht rdy.length (Nat.le_refl _)
  rw [List.take_length] at M
  generalize rdy.foldl (doneOne (built needs).2) (outed np rdy, []) = st at *
  refine ⟨fun k hk => ?_, M.nd, fun x => ?_⟩
  · rw [M.np k hk]
    have q : (k : Int) ∈ rdy ↔ d (k : Int) = t := by rw [R.mem]; exact ⟨fun h => h.2.2, fun h => ⟨by (first | lia | omega), by (first | lia | omega), h⟩⟩
    by_cases c : d (k : Int) < t + 1
    · rw [if_pos c, if_pos]
      by_cases c2 : d (k : Int) = t
      · exact .inr (q.mpr c2)
      · left; (first | lia | omega)
    · rw [if_neg c, if_neg (by rintro (h | h); (first | lia | omega); have := q.mp h; (first | lia | omega)), if_neg (by (first | lia | omega))]
      congr 2
      refine List.filter_congr fun y hy => ?_
      have hy6 := hn.rng k y hy
      have q2 : y ∈ rdy ↔ d y = t := by rw [R.mem]; exact ⟨fun h => h.2.2, fun h => ⟨hy6.1, hy6.2, h⟩⟩
      rw [decide_eq_decide, q2]
      (first | lia | omega)
  · rw [M.mem]
    refine ⟨fun ⟨b1, b2, b3, b4⟩ => ⟨b1, b2, ?_⟩, fun ⟨b1, b2, b3⟩ => ⟨b1, b2, by (first | lia | omega), fun y hy => ?_⟩⟩
    · have ex : ((x.toNat : Nat) : Int) = x := by with_reducible exact nat_eq (by with_reducible assumption)
      obtain ⟨y, hy, e⟩ := hd.next x.toNat (by with_reducible exact lt6_nat (by with_reducible assumption) (by with_reducible assumption)) (by rw [ex]; (first | lia | omega))
      rw [ex] at e
      rcases b4 y hy with h | h
      · (first | lia | omega)
      · have := ((R.mem y).mp h).2.2; (first | lia | omega)
    · have ex : ((x.toNat : Nat) : Int) = x := by with_reducible exact nat_eq (by with_reducible assumption)
      have h1 := hd.low x.toNat (by with_reducible exact lt6_nat (by with_reducible assumption) (by with_reducible assumption)) y hy
      have h2 := hn.rng x.toNat y hy
      rw [ex] at h1
      by_cases c : d y = t
      · exact .inr ((R.mem y).mpr ⟨h2.1, h2.2, c⟩)
      · left; (first | lia | omega)
theorem free_mem (np : Nat → Int) (n : Nat) (x : Int) : x ∈ free np n ↔ ∃ k : Nat, k < n ∧ np k = 0 ∧ (k : Int) = x := by
  unfold free
  rw [List.mem_map]
  simp only [List.mem_filter, List.mem_range, beq_iff_eq]
  exact ⟨fun ⟨k, ⟨a, b⟩, c⟩ => ⟨k, a, b, c⟩, fun ⟨k, a, b, c⟩ => ⟨k, ⟨a, b⟩, c⟩⟩
theorem free_nodup (np : Nat → Int) (n : Nat) : (free np n).Nodup :=
  List.Pairwise.map _ (fun a b h e => h (by (first | lia | omega))) (List.Pairwise.filter _ List.nodup_range)
set_option tactic.hygienic true in
theorem RInv.first (hn : NOk needs) (hd : Deep needs d) : RInv needs d 1 (built needs).1 (free (built needs).1 6) := by
  refine ⟨fun k hk => ?_, free_nodup _ _, fun x => ?_⟩
  · have h1 := hd.pos (k : Int) (by with_reducible exact Int.natCast_nonneg _) (by with_reducible exact lt6_int (by with_reducible assumption))
    rw [built_np k hk, if_neg (by (first | lia | omega))]
    congr 1
    congr 1
    refine (List.filter_eq_self.mpr fun y hy => ?_).symm
    have := hn.rng k y hy
    exact decide_eq_true (hd.pos y this.1 this.2)
  · rw [free_mem]
    constructor
    · rintro ⟨k, hk, h0, rfl⟩
      rw [built_np k hk] at h0
      have e : needs k = [] := List.eq_nil_of_length_eq_zero (by (first | lia | omega))
      refine ⟨by (first | lia | omega), by (first | lia | omega), ?_⟩
      by_cases c : d (k : Int) = 1
      · exact c
      · obtain ⟨y, hy, _⟩ := hd.next k hk c
        rw [e] at hy; cases hy
    · rintro ⟨b1, b2, b3⟩
      refine ⟨x.toNat, by (first | lia | omega), ?_, by (first | lia | omega)⟩
      rw [built_np _ (by with_reducible exact lt6_nat (by with_reducible assumption) (by with_reducible assumption))]
      have ex : ((x.toNat : Nat) : Int) = x := by with_reducible exact nat_eq (by with_reducible assumption)
      cases h : needs x.toNat with
      | nil => rfl
      | cons y ys =>
        have hy : y ∈ needs x.toNat := by rw [h]; exact .head _
        have h1 := hd.low x.toNat (by with_reducible exact lt6_nat (by with_reducible assumption) (by with_reducible assumption)) y hy
        have h2 := hn.rng x.toNat y hy
        have h3 := hd.pos y h2.1 h2.2
        rw [ex] at h1
        (first | lia | omega)
set_option tactic.hygienic true in
theorem RInv.none_up (hd : Deep needs d) (hn : NOk needs) {t : Int} (ht : 1 ≤ t) {np : Nat → Int} {rdy : List Int} (R : RInv needs d t np rdy) (he : rdy = []) : ∀ x, 0 ≤ x → x < 6 → d x < t := by
  have key : ∀ (n : Nat) (x : Int), d x ≤ n → 0 ≤ x → x < 6 → d x < t := by
    intro n
    induction n with
    | zero => intro x h b1 b2; (first | lia | omega)
    | succ n ih =>
      intro x h b1 b2
      have ex : ((x.toNat : Nat) : Int) = x := by with_reducible exact nat_eq (by with_reducible assumption)
      have hne : d x ≠ t := fun e => by
        have := (R.mem x).mpr ⟨b1, b2, e⟩
        rw [he] at this; cases this
      by_cases c : d x = 1
      · (first | lia | omega)
      · obtain ⟨y, hy, e⟩ := hd.next x.toNat (by with_reducible exact lt6_nat (by with_reducible assumption) (by with_reducible assumption)) (by rw [ex]; exact c)
        rw [ex] at e
        have h2 := hn.rng x.toNat y hy
        have := ih y (by (first | lia | omega)) h2.1 h2.2
        (first | lia | omega)
  intro x b1 b2
  have := hd.pos x b1 b2
  exact key (d x).toNat x (by (first | lia | omega)) b1 b2
set_option tactic.hygienic true in
theorem kr_of (hn : NOk needs) (hd : Deep needs d) : ∀ (m : Nat) (t : Int) (np : Nat → Int) (rdy : List Int), 1 ≤ t → 8 ≤ t + m → RInv needs d t np rdy →
    ∃ out, Kr (built needs).2 np rdy out ∧ out.Nodup ∧ (∀ x, x ∈ out ↔ 0 ≤ x ∧ x < 6 ∧ t ≤ d x) ∧ out.Pairwise (fun a b => d a ≤ d b) := by
  intro m
  induction m with
  | zero =>
    intro t np rdy ht hm R
    have he : rdy = [] := by
      cases rdy with
      | nil => rfl
      | cons x r =>
        have := ((R.mem x).mp (.head _)).2.2
        have := hd.six x
        (first | lia | omega)
    refine ⟨[], by rw [he]; exact .nil, List.Pairwise.nil, fun x => ⟨fun h => absurd h List.not_mem_nil, fun ⟨_, _, h⟩ => ?_⟩, List.Pairwise.nil⟩
    have := hd.six x; (first | lia | omega)
  | succ m ih =>
    intro t np rdy ht hm R
    by_cases he : rdy = []
    · have hu := R.none_up hd hn ht he
      refine ⟨[], by rw [he]; exact .nil, List.Pairwise.nil, fun x => ⟨fun h => absurd h List.not_mem_nil, fun ⟨b1, b2, h⟩ => ?_⟩, List.Pairwise.nil⟩
      have := hu x b1 b2; (first | lia | omega)
    · obtain ⟨out, h1, h2, h3, h4⟩ := ih (t + 1) _ _ (by (first | lia | omega)) (by (first | lia | omega)) (R.next hn hd ht)
      have hr : ∀ x ∈ rdy, 0 ≤ x ∧ x < 6 := fun x hx => ⟨((R.mem x).mp hx).1, ((R.mem x).mp hx).2.1⟩
      have hl : rdy.length ≤ 6 := nodup_len 6 rdy R.nd hr
      refine ⟨rdy ++ out, .cons he (by ((with_reducible refine Nat.le_trans (by with_reducible assumption) ?_); exact Nat.le_of_ble_eq_true rfl)) hr (R.pre hn hd ht) h1, ?_, fun x => ?_, ?_⟩
      · refine List.nodup_append.mpr ⟨R.nd, h2, fun a ha b hb e => ?_⟩
        subst e
        have := ((R.mem a).mp ha).2.2
        have := ((h3 a).mp hb).2.2
        (first | lia | omega)
      · rw [List.mem_append, R.mem, h3]
        constructor
        · rintro (⟨a, b, c⟩ | ⟨a, b, c⟩)
          · exact ⟨a, b, by (first | lia | omega)⟩
          · exact ⟨a, b, by (first | lia | omega)⟩
        · rintro ⟨a, b, c⟩
          by_cases q : d x = t
          · exact .inl ⟨a, b, q⟩
          · exact .inr ⟨a, b, by (first | lia | omega)⟩
      · refine List.pairwise_append.mpr ⟨?_, h4, fun a ha b hb => ?_⟩
        · refine List.Pairwise.imp_of_mem (R := fun _ _ => True) (fun {a b} ha hb _ => ?_) (List.pairwise_iff_forall_sublist.mpr fun _ => trivial)
          rw [((R.mem a).mp ha).2.2, ((R.mem b).mp hb).2.2]
          exact Int.le_refl _
        · have := ((R.mem a).mp ha).2.2
          have := ((h3 b).mp hb).2.2
          (first | lia | omega)
theorem order_plain (hn : NOk needs) (hd : Deep needs d) : ∃ out, Kr (built needs).2 (built needs).1 (free (built needs).1 6) out ∧ out.Nodup ∧ (∀ x, x ∈ out ↔ 0 ≤ x ∧ x < 6) ∧ (∀ k : Nat, k < 6 → ∀ y ∈ needs k, out.idxOf y ≤ out.idxOf (k : Int)) := by
  obtain ⟨out, h1, h2, h3, h4⟩ := kr_of hn hd 7 1 _ _ (by (first | lia | omega)) (by (first | lia | omega)) (RInv.first hn hd)
  have hm : ∀ x, x ∈ out ↔ 0 ≤ x ∧ x < 6 := fun x => by
    rw [h3]
    exact ⟨fun h => ⟨h.1, h.2.1⟩, fun h => ⟨h.1, h.2, hd.pos x h.1 h.2⟩⟩
  refine ⟨out, h1, h2, hm, fun k hk y hy => ?_⟩
  have hy6 := hn.rng k y hy
  have hl := hd.low k hk y hy
  have i1 := List.idxOf_lt_length_of_mem ((hm y).mpr hy6)
  have i2 := List.idxOf_lt_length_of_mem ((hm (k : Int)).mpr ⟨by (first | lia | omega), by (first | lia | omega)⟩)
  by_cases c : out.idxOf (k : Int) < out.idxOf y
  · have := List.pairwise_iff_getElem.mp h4 _ _ i2 i1 c
    rw [List.getElem_idxOf, List.getElem_idxOf] at this
    (first | lia | omega)
  · (first | lia | omega)
end
section
open PySem PySem.W PyProof.Rows PySem.Calls PySem.Spec
noncomputable def forIter : Stmt → Expr
  | .For _ it _ _ _ => it
  | _ => .Name Str.empty default
theorem law9 : lawS 9 = .For (.Name (Str.ofString "turn") ⟨168, 8, 168, 12⟩) (forIter (lawS 9)) [turnS 0, turnS 1, turnS 2, turnS 3, turnS 4, turnS 5, turnS 6] [] ⟨168, 4, 179, 24⟩ := by rfl
section
variable {w : World} {A : Around} {s : Shared} {B : Bs} {l : List Reg} {mg : Str → Option Value} {L fa r D D2 O t : Addr} {fs : List (Str × Value)} {needs : Nat → List Int} {np : Nat → Int} {S : Lay} {Q : Flow → Shared → Prop} {rdy nxt ks : List Int} {c f : Int} {t3 t4 tk : Nat} {cs : List Addr} {v6 v5 v4 : Option Value} {turn : Int} {d : Int → Int}
set_option tactic.hygienic true in
theorem stage10 {succ : Nat → List Int} (X : LawAt w A B mg L fa)
    (H : St B s (tsi S :: tsd w S (.ref r) (.int c t3) (.int c t4) :: n2i S 6 :: nis S np :: sls S succ :: ilst r [] :: frame L [] :: cel7 L (some (.ref S.a)) :: tabq 160 lamq cs :: l))
    (h : ∀ cs s', St B s' (tabq 160 lamq cs :: l) → Q (.ret (.bool true)) s') :
    wpAny (model PySem.Challenge.pw_xc0002_01 w) A (exec (lawS 10) (lawE L fa)) Q (fun _ _ => False) s := by
  have e : lawS 10 = lawS 10 := rfl
  conv at e => rhs; whnf
  rw [e]; clear e
  have G := X.G
  have hh := X.hh
  have hdep := X.dep
  (with_reducible refine wpAny_Return_some ?_); (with_reducible refine wpAny_And2 ?_); (with_reducible refine wpAny_UnaryOp ?_); (with_reducible show wpAny _ _ (eval (Expr.Call (Expr.Attribute _ _ _) _ _ _) _) _ _ _); refine MethodCall_ ?_; (with_reducible show wpAny _ _ (eval (Expr.Name _ _) (envOfC _ _ _ _ _)) _ _ _); refine nmC_c (by with_reducible assumption) (by rfl) (by with_reducible exact mem_7) ?_ (by rfl) (by rfl) (by decide)
  refine gm_ts (f := 99) (by with_reducible assumption) (by with_reducible assumption) (by with_reducible exact mem_0) (by with_reducible exact mem_1) (by k_is) (by k_is) (by k_is) (fun _ _ _ _ _ => rfl) ?_
  (with_reducible show wpAny _ _ (callWith _ (Value.ref _) _ (backTo _ (starEach [] _)) _) _ _ _); refine cw_fn0 (by with_reducible assumption) (by with_reducible assumption) (by k_is) ?_ (by rfl); dsimp only
  refine wpAny_call (is_active_ok (np := np) (succ := succ) (xs := []) (r := r) (S := S) (out := c) (fin := c) (t3 := t3) (t4 := t4) (l := frame L [] :: cel7 L (some (.ref S.a)) :: tabq 160 lamq cs :: l) H G (by simp) (by ((with_reducible refine Nat.lt_trans (by with_reducible assumption) ?_); exact Nat.le_of_ble_eq_true rfl)) fun s2 H2 => ?_)
  dsimp only
  refine PyProof.Rows.not_of (wpAny_truthy_bool ?_)
  (with_reducible refine wpAny_truthy_bool ?_)
  refine b_tt ?_ (by simp)
  (with_reducible show wpAny _ _ (eval (Expr.Call (Expr.Name _ _) _ _ _) _) _ _ _); refine wpAny_Call_ofName ?_; (with_reducible show wpAny _ _ (eval (Expr.Name _ _) (envOfC _ _ _ _ _)) _ _ _); refine nmC_g (by with_reducible assumption) (by with_reducible assumption) (by k_is) ?_ (by rfl) (by rfl) (by decide); (with_reducible show wpAny _ _ (callWith _ (Value.ref _) _ (backTo _ (starEach (_ :: _) _)) _) _ _ _); refine cw_fn (by with_reducible assumption) (by k_is) ?_ (by rfl) (by rfl) (by rfl); (with_reducible show wpAny _ _ (spliced (backTo _ (starEach (_ :: _) _))) _ _ _); refine wpAny_items_cons ?_
  refine sl_lambda (q := lamq) H2 (O := by exact .there (.there (.there (.there (.there (.there (.there (.there (.here))))))))) X.ln rfl rfl rfl rfl rfl ?_
  intro lf c' cs' s4 hc' H4
  (with_reducible show wpAny _ _ (spliced (backTo _ (starEach [] _))) _ _ _); refine wpAny_items_nil ?_; (with_reducible show Frag.In _ _ ∧ wpAny _ _ _ _ _ _); refine ⟨St.kin (by with_reducible assumption) (by with_reducible assumption), ?_⟩
  refine wpAny_call (refused_ok H4 G (.head _) (by ((with_reducible refine Nat.lt_trans (by with_reducible assumption) ?_); exact Nat.le_of_ble_eq_true rfl)) hh X.fr (law_frl (by with_reducible exact mem_8)) ?_ ?_)
  · intro A' outerE' L1 s5 hA' hh' hF' hFl' H5
    refine sl_callLam H5 (.tail _ (.head _)) (.tail _ (.tail _ (.head _))) hc' G.lim (by rw [hA']; show A.depth + 1 < 1000; (first | lia | omega)) (fun _ _ => rfl) ?_ (by rfl) (by rfl) (by rfl) (by decide)
    intro L2 s6 H6
    (with_reducible show wpAny _ _ (eval (Expr.Call (Expr.Attribute _ _ _) _ _ _) _) _ _ _); refine MethodCall_ ?_; (with_reducible show wpAny _ _ (eval (Expr.Name _ _) (envX _ _ _ _ _ _)) _ _ _); refine nmX_f (by with_reducible assumption) (by rfl) (by (refine List.mem_cons_of_mem _ ?_; refine List.mem_cons_of_mem _ ?_; with_reducible exact mem_9)) ?_ (by rfl) (by rfl) (by decide) (by decide)
    refine gm_ts (f := 113) (by with_reducible assumption) (by with_reducible assumption) (by with_reducible exact mem_4) (by with_reducible exact mem_5) (by k_is) (by k_is) (by k_is) (fun _ _ _ _ _ => rfl) ?_
    (with_reducible show wpAny _ _ (callWith _ (Value.ref _) _ (backTo _ (starEach (_ :: _) _)) _) _ _ _); refine cw_fn (by with_reducible assumption) (by k_is) ?_ (by rfl) (by rfl) (by rfl); dsimp only; (with_reducible show wpAny _ _ (spliced (backTo _ (starEach (_ :: _) _))) _ _ _); refine wpAny_items_cons ?_; (with_reducible show wpAny _ _ (eval (Expr.Constant (Const.int _) _ _) _) _ _ _); refine const_int (by with_reducible assumption) ?_; intro _ _ _; (with_reducible show wpAny _ _ (spliced (backTo _ (starEach [] _))) _ _ _); refine wpAny_items_nil ?_; (with_reducible show Frag.In _ _ ∧ wpAny _ _ _ _ _ _); refine ⟨St.kin (by with_reducible assumption) (by with_reducible assumption), ?_⟩
    refine wpAny_call (done_err (x := 99) (vs := [.int 99 _]) (S := S) (r := r) (rdy := []) (out := c) (fin := c) (t3 := t3) (t4 := t4) (np := np) (succ := succ) (l := frame L2 [] :: frame L1 [(Str.ofString "what", .ref lf)] :: lamr lf lamq _ _ _ _ c' :: tabq 160 lamq cs' :: frame L [] :: cel7 L (some (.ref S.a)) :: l)
      (St.perm (by with_reducible assumption) (by exact permP_perm [4, 4, 4, 4, 4, 4] _)) G (.cons _ _ .nil) (.inl (by (first | lia | omega))) (by show A'.depth + 1 < 900; (first | lia | omega)) hh' (Around.frames_deeper hF') ?_ ?_)
    · exact FrL.perm (FrL.under (L := L2) (fs := []) hFl' (fun h => ScopeKind.noConfusion h) rfl) (by exact permP_perm [4, 4, 4, 4, 4, 4] _)
    · intro e t T s8 H8
      dsimp only
      refine leave_next (L := L2) (Around.frames_deeper hF') (FrL.sub (FrL.perm (FrL.under (L := L2) (fs := []) hFl' (fun h => ScopeKind.noConfusion h) rfl) (by exact permP_perm [4, 4, 4, 4, 4, 4] _)) fun x hx => .tail _ (.tail _ hx)) rfl H8 .here (.tail _ (.head _)) ?_
      intro T' s9 H9
      refine ⟨e, t, T', rfl, ?_⟩
      exact St.sub (St.perm H9 (l' := excr e (.type "ValueError") (.ref t) (.ref T') :: tbr T' .none :: tbr T .none :: frame L2 [] :: frame L1 [(Str.ofString "what", .ref lf)] :: lamr lf lamq _ _ _ _ c' :: tabq 160 lamq cs' :: tsi S :: tsd w S (.ref r) (.int c t3) (.int c t4) :: n2i S 6 :: nis S np :: sls S succ :: ilst r [] :: frame L [] :: cel7 L (some (.ref S.a)) :: l) (by exact permP_perm [0, 0, 0, 6, 6, 6, 6] _)) (by exact sub_of [true, true, false, false] rfl)
  · intro s5 H5
    dsimp only
    exact h cs' _ (St.sub (St.perm H5 (l' := lamr lf lamq _ _ _ _ c' :: tsi S :: tsd w S (.ref r) (.int c t3) (.int c t4) :: n2i S 6 :: nis S np :: sls S succ :: ilst r [] :: frame L [] :: cel7 L (some (.ref S.a)) :: tabq 160 lamq cs' :: l) (by exact permP_perm [0, 1, 1, 1, 1, 1, 1, 1, 1] _)) (by exact sub_of [false, false, false, false, false, false, false, false, false] rfl))
theorem filt_mem (needs : Nat → List Int) (p : Int → Bool) (n : Nat) (x : Int) : x ∈ filt needs p n ↔ 0 ≤ x ∧ x < n ∧ p (dp needs x) = true := by
  unfold filt
  rw [List.mem_map]
  constructor
  · rintro ⟨k, hk, rfl⟩
    obtain ⟨h1, h2⟩ := List.mem_filter.mp hk
    have := List.mem_range.mp h1
    exact ⟨by (first | lia | omega), by (first | lia | omega), h2⟩
  · rintro ⟨h0, h6, h⟩
    have e : ((x.toNat : Nat) : Int) = x := by with_reducible exact nat_eq (by with_reducible assumption)
    exact ⟨x.toNat, List.mem_filter.mpr ⟨List.mem_range.mpr (by (first | lia | omega)), by rw [e]; exact h⟩, e⟩
theorem filt_lt (needs : Nat → List Int) (p : Int → Bool) (n : Nat) : (filt needs p n).Pairwise (· < ·) :=
  List.Pairwise.map _ (fun a b h => by (first | lia | omega)) (List.Pairwise.filter _ List.pairwise_lt_range)
theorem ready_sorted (R : RInv needs (dp needs) turn np rdy) (ys : List Int) (hp : ys.Perm rdy) (ho : ys.Pairwise (· ≤ ·)) : ys = filt needs (fun d => decide (d = turn)) 6 := by
  have hl := filt_lt needs (fun d => decide (d = turn)) 6
  have hnd : (filt needs (fun d => decide (d = turn)) 6).Nodup := hl.imp fun h e => by (first | lia | omega)
  refine sorted_unique (hp.trans ((List.perm_ext_iff_of_nodup R.nd hnd).mpr fun x => ?_)) ho (hl.imp fun h => Int.le_of_lt h)
  rw [R.mem, filt_mem, decide_eq_true_iff]
  exact Iff.rfl
set_option tactic.hygienic true in
theorem stage9 (X : LawAt w A B mg L fa) (hn : NOk needs) (hd : Deep needs (dp needs))
    (H : St B s (tsi S :: tsd w S (.ref r) (.int 0 t3) (.int 0 t4) :: n2i S 6 :: nis S ((built needs).1) :: sls S ((built needs).2) :: ilst r (free (built needs).1 6) :: ilst D (deepL needs 6) :: frame L [] :: cel2 L (some (.ref D)) :: cel4 L v4 :: cel5 L v5 :: cel6 L v6 :: cel7 L (some (.ref S.a)) :: tabq 160 lamq cs :: l))
    (h : ∀ np c t3 t4 cs s', St B s' (tsi S :: tsd w S (.ref r) (.int c t3) (.int c t4) :: n2i S 6 :: nis S np :: sls S ((built needs).2) :: ilst r [] :: frame L [] :: cel7 L (some (.ref S.a)) :: tabq 160 lamq cs :: l) → Q .next s') :
    wpAny (model PySem.Challenge.pw_xc0002_01 w) A (exec (lawS 9) (lawE L fa)) Q (fun _ _ => False) s := by
  rw [law9]
  have e : forIter (lawS 9) = forIter (lawS 9) := rfl
  conv at e => rhs; whnf
  rw [e]; clear e
  have G := X.G
  have hh := X.hh
  have hdep := X.dep
  refine wpAny_For ?_
  (with_reducible show wpAny _ _ (eval (Expr.Call (Expr.Name _ _) _ _ _) _) _ _ _); refine wpAny_Call_ofName ?_; (with_reducible show wpAny _ _ (eval (Expr.Name _ _) (envOfC _ _ _ _ _)) _ _ _); refine nmC_b (v := .type "range") (by with_reducible assumption) (by with_reducible assumption) (by k_is) (by rfl) ?_ (by decide) (by rfl) (by rfl) (by decide); (with_reducible show wpAny _ _ (callWith _ (Value.type _) _ (backTo _ (starEach (_ :: _) _)) _) _ _ _); refine cw_mach ?_ (by rfl) (by rfl) (by rfl) (by rfl); (with_reducible show wpAny _ _ (spliced (backTo _ (starEach (_ :: _) _))) _ _ _); refine wpAny_items_cons ?_; (with_reducible show wpAny _ _ (eval (Expr.Constant (Const.int _) _ _) _) _ _ _); refine const_int (by with_reducible assumption) ?_; intro _ _ _; (with_reducible show wpAny _ _ (spliced (backTo _ (starEach (_ :: _) _))) _ _ _); refine wpAny_items_cons ?_; (with_reducible refine wpAny_BinOp ?_); (with_reducible show wpAny _ _ (eval (Expr.Call (Expr.Name _ _) _ _ _) _) _ _ _); refine wpAny_Call_ofName ?_; (with_reducible show wpAny _ _ (eval (Expr.Name _ _) (envOfC _ _ _ _ _)) _ _ _); refine nmC_b (v := .builtin "max") (by with_reducible assumption) (by with_reducible assumption) (by k_is) (by rfl) ?_ (by decide) (by rfl) (by rfl) (by decide); (with_reducible show wpAny _ _ (callWith _ (Value.builtin _) _ (backTo _ (starEach (_ :: _) _)) _) _ _ _); refine cw_mach ?_ (by rfl) (by rfl) (by rfl) (by rfl); (with_reducible show wpAny _ _ (spliced (backTo _ (starEach (_ :: _) _))) _ _ _); refine wpAny_items_cons ?_; (with_reducible show wpAny _ _ (eval (Expr.Name _ _) (envOfC _ _ _ _ _)) _ _ _); refine nmC_c (by with_reducible assumption) (by rfl) (by with_reducible exact mem_8) ?_ (by rfl) (by rfl) (by decide); (with_reducible show wpAny _ _ (spliced (backTo _ (starEach [] _))) _ _ _); refine wpAny_items_nil ?_
  refine max_ilst (xs := deepL needs 6) hh (by with_reducible assumption) (by with_reducible exact mem_6) (by rw [deepL_len]; (first | lia | omega)) ?_
  intro M tM s2 H2 hM hMx
  obtain ⟨kM, hkM, eM⟩ := deepL_mem.mp hM
  have hM1 := hd.pos (kM : Int) (by with_reducible exact Int.natCast_nonneg _) (by with_reducible exact lt6_int (by with_reducible assumption))
  have hM7 := hd.six (kM : Int)
  rw [eM] at hM1 hM7
  have hle : ∀ x : Int, 0 ≤ x → x < 6 → dp needs x ≤ M := fun x h0 h6 => hMx _ (deepL_mem.mpr ⟨x.toNat, by (first | lia | omega), by rw [show ((x.toNat : Nat) : Int) = x by (first | lia | omega)]⟩)
  (with_reducible show wpAny _ _ (eval (Expr.Constant (Const.int _) _ _) _) _ _ _); refine const_int (by with_reducible assumption) ?_; intro _ _ _; (with_reducible show wpAny _ _ (binaryOp .Add (Value.int _ _) (Value.int _ _)) _ _ _); refine bi_add (by with_reducible assumption) ?_; intro _ _ _; (with_reducible show wpAny _ _ (spliced (backTo _ (starEach [] _))) _ _ _); refine wpAny_items_nil ?_; (with_reducible show wpAny _ _ (call (Value.type "range") ([] ++ [Value.int _ _, Value.int _ _])) _ _ _); refine call_rng2 (by with_reducible assumption) ?_; intro _ _ _
  rename_i q s3 H3
  refine iter_rng (n := M.toNat) H3 (.head _) (by (first | lia | omega)) (by (first | lia | omega)) (by (first | lia | omega)) ?_
  intro it s4 H4
  obtain ⟨I0, hI0⟩ : ∃ I0 : Nat → List Reg → Prop, I0 = (fun i l' => i ≤ M.toNat ∧ ∃ np rdy c t3 t4 v4 v5 v6 cs, RInv needs (dp needs) (1 + (i : Int)) np rdy ∧ l' = tsi S :: tsd w S (.ref r) (.int c t3) (.int c t4) :: n2i S 6 :: nis S np :: sls S ((built needs).2) :: ilst r rdy :: ilst D (deepL needs 6) :: frame L [] :: cel2 L (some (.ref D)) :: cel4 L v4 :: cel5 L v5 :: cel6 L v6 :: cel7 L (some (.ref S.a)) :: tabq 160 lamq cs :: l) := ⟨_, rfl⟩
  refine for_itr (itr_range hh) I0
    (H4.sub (.cons_cons _ (.cons _ (.refl _)))) (by rw [hI0]; exact ⟨Nat.zero_le _, (built needs).1, free (built needs).1 6, 0, t3, t4, v4, v5, v6, cs, by rw [Int.natCast_zero, Int.add_zero]; exact RInv.first hn hd, rfl⟩) (fun _ _ _ _ _ => trivial) ?_ ?_
  · rintro i v l₁ s₁ hi ⟨tk, rfl⟩ hI H5
    rw [hI0] at hI
    obtain ⟨_, np, rdy, c, t3, t4, v4, v5, v6, cs, R, rfl⟩ := hI
    have hrx : ∀ x ∈ rdy, 0 ≤ x ∧ x < 6 := fun x hx => ⟨((R.mem x).mp hx).1, ((R.mem x).mp hx).2.1⟩
    have hrl : rdy.length ≤ 6 := nodup_len 6 rdy R.nd hrx
    have hne : rdy ≠ [] := fun he => by
      have := R.none_up hd hn (by (first | lia | omega)) he (kM : Int) (by with_reducible exact Int.natCast_nonneg _) (by with_reducible exact lt6_int (by with_reducible assumption))
      rw [eM] at this; (first | lia | omega)
    have hbl : ∀ k, ((built needs).2 k).length ≤ 10 := fun k => Nat.le_trans (built_len hn k) (by decide)
    have hbx : ∀ k, ∀ x ∈ (built needs).2 k, 0 ≤ x ∧ x < 6 := fun k x hx => by
      obtain ⟨j, hj, rfl, _⟩ := (built_mem x k).mp hx
      (first | lia | omega)
    have R' := R.next hn hd (by (first | lia | omega))
    have hpre := R.pre hn hd (by (first | lia | omega))
    (with_reducible refine wpAny_assign_Name ?_); dsimp only; (with_reducible show wpAny _ _ (storeName (envOfC _ _ _ _ _) _ _) _ _ _); refine stC_c (by with_reducible assumption) (by rfl) (by (apply Rep.there; with_reducible exact rep_9)) ?_ (by rfl) (by rfl); intro _ _; (with_reducible refine wpAny_execs_cons ?_)
    rename_i s6 H6
    refine turn0 (l := riter it 1 M.toNat (i + 1) :: ilst D (deepL needs 6) :: cel2 L (some (.ref D)) :: cel4 L (some (.int (1 + (i : Int)) tk)) :: cel5 L v5 :: cel6 L v6 :: tabq 160 lamq cs :: l) X hne hrl (St.perm H6 (by exact permP_perm [1, 1, 1, 1, 1, 1, 2, 6] _)) ?_
    intro s7 H7
    dsimp only
    refine wpAny_execs_cons ?_
    refine turn1 (l := riter it 1 M.toNat (i + 1) :: ilst D (deepL needs 6) :: cel2 L (some (.ref D)) :: cel4 L (some (.int (1 + (i : Int)) tk)) :: cel5 L v5 :: tabq 160 lamq cs :: l) X hrl hrx (St.perm H7 (by exact permP_perm [0, 0, 0, 0, 0, 0, 0, 6] _)) ?_
    intro t t3' s8 H8
    dsimp only
    refine wpAny_execs_cons ?_
    refine turn2 (l := riter it 1 M.toNat (i + 1) :: cel5 L v5 :: tabq 160 lamq cs :: l) X hrl (ready_sorted R) (St.perm H8 (by exact permP_perm [0, 0, 0, 0, 0, 0, 0, 4, 0, 3, 3] _)) ?_
    intro t3'' s9 H9
    dsimp only
    refine wpAny_execs_cons ?_
    refine turn3 (needs := needs) (D := D) (l := riter it 1 M.toNat (i + 1) :: itup t rdy :: tsi S :: tsd w S (.ref r) (.int (c + rdy.length) t3'') (.int c t4) :: n2i S 6 :: nis S (fun k => if (k : Int) ∈ rdy then -1 else np k) :: sls S ((built needs).2) :: ilst r [] :: cel6 L (some (.ref t)) :: cel7 L (some (.ref S.a)) :: tabq 160 lamq cs :: l) X (St.perm H9 (by exact permP_perm [7, 7, 7, 7, 10, 9] _)) ?_
    intro D2 s10 H10
    dsimp only
    refine wpAny_execs_cons ?_
    refine turn4 (ks := filt needs (fun d => decide (1 + (i : Int) < d)) 6) (np := (fun k => if (k : Int) ∈ rdy then -1 else np k)) (S := S) (r := r) (t3 := t3'') (t4 := t4) (c := c + rdy.length) (f := c) (succ := (built needs).2) (D2 := D2) (cs := cs) (l := riter it 1 M.toNat (i + 1) :: itup t rdy :: ilst D (deepL needs 6) :: cel2 L (some (.ref D)) :: cel4 L (some (.int (1 + (i : Int)) tk)) :: cel6 L (some (.ref t)) :: l) X (filt_len _ _ 6) ?_ (St.perm H10 (by exact permP_perm [8, 8, 8, 8, 8, 8, 0, 1, 3, 6, 6, 3, 3] _)) ?_
    · intro x hx
      obtain ⟨b1, b2, b3⟩ := (filt_mem _ _ _ _).mp hx
      have b3 := of_decide_eq_true b3
      refine ⟨⟨b1, b2⟩, ?_⟩
      have ex : ((x.toNat : Nat) : Int) = x := by with_reducible exact nat_eq (by with_reducible assumption)
      show 0 ≤ (if ((x.toNat : Nat) : Int) ∈ rdy then -1 else np x.toNat)
      rw [ex, if_neg (fun h => by have := ((R.mem x).mp h).2.2; (first | lia | omega)), R.np _ (by (first | lia | omega)), ex, if_neg (by (first | lia | omega))]
      exact Int.natCast_nonneg _
    intro cs2 s11 H11
    dsimp only
    refine wpAny_execs_cons ?_
    refine turn5 (rdy := rdy) (np := (fun k => if (k : Int) ∈ rdy then -1 else np k)) (S := S) (r := r) (t := t) (t3 := t3'') (t4 := t4) (c := c + rdy.length) (f := c) (succ := (built needs).2) (l := riter it 1 M.toNat (i + 1) :: ilst D2 (filt needs (fun d => decide (1 + (i : Int) < d)) 6) :: ilst D (deepL needs 6) :: cel2 L (some (.ref D)) :: cel4 L (some (.int (1 + (i : Int)) tk)) :: cel5 L (some (.ref D2)) :: tabq 160 lamq cs2 :: l) X hrl hrx hbl hbx hpre (St.perm H11 (by exact permP_perm [0, 0, 0, 0, 0, 0, 6, 1, 8, 2, 3, 0, 2, 2, 2] _)) ?_
    intro t4' s12 H12
    dsimp only
    refine wpAny_execs_cons ?_
    obtain ⟨x, rest, rfl⟩ : ∃ x rest, rdy = x :: rest := by
      cases rdy with
      | nil => exact absurd rfl hne
      | cons x rest => exact ⟨x, rest, rfl⟩
    obtain ⟨b1, b2, b3⟩ := (R.mem x).mp (.head _)
    refine turn6 (x := x) (rest := rest) (np := ((x :: rest).foldl (doneOne (built needs).2) (outed np (x :: rest), [])).1) (nxt := ((x :: rest).foldl (doneOne (built needs).2) (outed np (x :: rest), [])).2) (S := S) (r := r) (t := t) (t3 := t3'') (t4 := t4') (c := c + (x :: rest).length) (f := c + (x :: rest).length) (succ := (built needs).2) (cs := cs2) (l := riter it 1 M.toNat (i + 1) :: ilst D2 (filt needs (fun d => decide (1 + (i : Int) < d)) 6) :: ilst D (deepL needs 6) :: cel2 L (some (.ref D)) :: cel4 L (some (.int (1 + (i : Int)) tk)) :: cel5 L (some (.ref D2)) :: l) X hrl b1 b2 ?_ (St.perm H12 (by exact permP_perm [0, 0, 0, 0, 0, 0, 0, 0, 0, 0, 6] _)) ?_
    · have ex : ((x.toNat : Nat) : Int) = x := by with_reducible exact nat_eq (by with_reducible assumption)
      rw [R'.np _ (by with_reducible exact lt6_nat (by with_reducible assumption) (by with_reducible assumption)), ex, if_pos (by (first | lia | omega))]
    intro cs3 s13 H13
    dsimp only
    refine wpAny_execs_nil ?_
    dsimp only
    have ei : 1 + ((i + 1 : Nat) : Int) = 1 + (i : Int) + 1 := by (first | lia | omega)
    refine ⟨_, by rw [hI0]; exact ⟨by (first | lia | omega), ((x :: rest).foldl (doneOne (built needs).2) (outed np (x :: rest), [])).1, ((x :: rest).foldl (doneOne (built needs).2) (outed np (x :: rest), [])).2, c + (x :: rest).length, t3'', t4', some (.int (1 + (i : Int)) tk), some (.ref D2), some (.ref t), cs3, ei ▸ R', rfl⟩, ?_⟩
    exact St.sub (St.perm H13 (l' := riter it 1 M.toNat (i + 1) :: itup t (x :: rest) :: ilst D2 (filt needs (fun d => decide (1 + (i : Int) < d)) 6) :: tsi S :: tsd w S (.ref r) (.int (c + (x :: rest).length) t3'') (.int (c + (x :: rest).length) t4') :: n2i S 6 :: nis S (((x :: rest).foldl (doneOne (built needs).2) (outed np (x :: rest), [])).1) :: sls S ((built needs).2) :: ilst r (((x :: rest).foldl (doneOne (built needs).2) (outed np (x :: rest), [])).2) :: ilst D (deepL needs 6) :: frame L [] :: cel2 L (some (.ref D)) :: cel4 L (some (.int (1 + (i : Int)) tk)) :: cel5 L (some (.ref D2)) :: cel6 L (some (.ref t)) :: cel7 L (some (.ref S.a)) :: tabq 160 lamq cs3 :: l) (by exact permP_perm [11, 6, 10, 0, 0, 0, 0, 0, 0, 4, 0, 3, 3, 3] _)) (by exact sub_of [true, false, false] rfl)
  · rintro l₁ s₁ hI H5
    rw [hI0] at hI
    obtain ⟨_, np, rdy, c, t3, t4, v4, v5, v6, cs, R, rfl⟩ := hI
    have he : rdy = [] := by
      cases rdy with
      | nil => rfl
      | cons x rest =>
        obtain ⟨b1, b2, b3⟩ := (R.mem x).mp (.head _)
        have := hle x b1 b2
        (first | lia | omega)
    subst he
    dsimp only
    exact h np c t3 t4 cs s₁ (St.sub H5 (by exact sub_of [true, true, true, true, true, true, false, true, false, false, false, false] rfl))
end
end
section
open PySem PySem.W PyProof.Rows PySem.Calls PySem.Spec
theorem law_rows : lawD.1 = [lawS 0, lawS 1, lawS 2, lawS 3, lawS 4, lawS 5, lawS 6, lawS 7, lawS 8, lawS 9, lawS 10] := by rfl
section
variable {w : World} {A : Around} {s : Shared} {B : Bs} {l : List Reg} {mg : Str → Option Value} {L fa r : Addr} {vs : List Value} {xs : List Int} {cs : List Addr} {Q : Flow → Shared → Prop}
theorem law_body (X : LawAt w A B mg L fa) (hl : B.g.IsList r vs.toArray) (hv : IntsAre vs xs) (hz : xs.length ≤ 63)
    (H : St B s (frame L [(Str.ofString "script", .ref r)] :: cel1 L none :: cel2 L none :: cel3 L none :: cel4 L none :: cel5 L none :: cel6 L none :: cel7 L none :: tabq 160 lamq cs :: []))
    (h : ∀ B' cs s', GS B B' → St B' s' (tabq 160 lamq cs :: []) → Q (.ret (.bool true)) s') :
    wpAny (model PySem.Challenge.pw_xc0002_01 w) A (execs lawD.1 (lawE L fa)) Q (fun _ _ => False) s := by
  rw [law_rows]
  refine wpAny_execs_cons ?_
  refine stage0 X H ?_
  intro T s1 H1
  dsimp only
  refine wpAny_execs_cons ?_
  refine stage1 (l := outer T :: sls T (fun _ => []) :: cel1 L (some (.ref T.a)) :: cel2 L none :: cel3 L none :: cel4 L none :: cel5 L none :: cel6 L none :: cel7 L none :: tabq 160 lamq cs :: []) X hl hv hz (St.perm H1 (by exact permP_perm [2] _)) ?_
  intro b s2 H2
  dsimp only
  refine wpAny_execs_cons ?_
  refine stage2 (b := b) (T := T) (l := cel2 L none :: cel3 L none :: cel4 L none :: cel5 L none :: cel6 L none :: cel7 L none :: tabq 160 lamq cs :: []) X hl hv hz (St.perm H2 (by exact permP_perm [1, 1] _)) ?_
  intro needs s3 hn H3
  dsimp only
  refine wpAny_execs_cons ?_
  refine stage3 (T := T) (needs := needs) (l := cel3 L none :: cel4 L none :: cel5 L none :: cel6 L none :: cel7 L none :: tabq 160 lamq cs :: []) X hn (St.perm H3 (by exact permP_perm [] _)) ?_
  intro D s4 H4
  dsimp only
  have hbl : ∀ k, ((built needs).2 k).length ≤ 10 := fun k => Nat.le_trans (built_len hn k) (by decide)
  refine wpAny_execs_cons ?_
  refine stage4 (T := T) (needs := needs) (l := ilst D (deepL needs 6) :: cel2 L (some (.ref D)) :: cel3 L none :: cel4 L none :: cel5 L none :: cel6 L none :: tabq 160 lamq cs :: []) X hn (St.perm H4 (by exact permP_perm [1, 1, 1, 1, 6] _)) ?_
  intro S t3 t4 s5 H5
  dsimp only
  refine wpAny_execs_cons ?_
  by_cases h0 : 0 ∈ deepL needs 6
  · refine stage5t (S := S) (T := T) (needs := needs) (t3 := t3) (t4 := t4) (D := D) (l := cel3 L none :: cel4 L none :: cel5 L none :: cel6 L none :: tabq 160 lamq cs :: []) X hn h0 (not_acyc hn h0) hbl (St.perm H5 (by exact permP_perm [0, 0, 0, 0, 0, 0, 0, 3, 0, 0, 1] _)) ?_
    intro s6 H6
    dsimp only
    exact h B cs s6 ⟨rfl, rfl, id⟩ (H6.sub (by exact sub_of [false, false, false, false] rfl))
  · have hd := deep_of hn h0
    have hno := no_ring hn hd
    obtain ⟨out, hkr, hond, hom, hidx⟩ := order_plain hn hd
    have hp : out.Perm six := (List.perm_ext_iff_of_nodup hond (by decide)).mpr fun x => by
      rw [hom]
      simp only [six, List.mem_map, List.mem_range]
      constructor
      · intro hx; exact ⟨x.toNat, by (first | lia | omega), by (first | lia | omega)⟩
      · rintro ⟨k, hk, rfl⟩; (first | lia | omega)
    have hol : out.length = 6 := hp.length_eq
    refine stage5f (needs := needs) (D := D) (l := tsi S :: tsd w S .none (.int 0 t3) (.int 0 t4) :: n2i S 6 :: nis S ((built needs).1) :: sls S ((built needs).2) :: outer T :: sls T needs :: cel1 L (some (.ref T.a)) :: cel3 L none :: cel4 L none :: cel5 L none :: cel6 L none :: cel7 L (some (.ref S.a)) :: tabq 160 lamq cs :: []) X h0 (St.perm H5 (by exact permP_perm [10, 7, 9, 0, 0, 0, 0, 0, 0, 0, 0, 1, 1, 1, 1] _)) ?_
    intro s6 H6
    dsimp only
    refine wpAny_execs_cons ?_
    refine stage6 (needs := needs) (T := T) (out := out) (l := ilst D (deepL needs 6) :: cel2 L (some (.ref D)) :: tsi S :: tsd w S .none (.int 0 t3) (.int 0 t4) :: n2i S 6 :: nis S ((built needs).1) :: sls S ((built needs).2) :: cel4 L none :: cel5 L none :: cel6 L none :: cel7 L (some (.ref S.a)) :: tabq 160 lamq cs :: []) X hn hbl hno hkr (by (first | lia | omega)) (St.perm H6 (by exact permP_perm [8, 8, 1, 7, 7] _)) ?_
    intro B' O s7 hB H7
    have X' := X.to hB.1
    dsimp only
    refine wpAny_execs_cons ?_
    refine stage7 (needs := needs) (T := T) (out := out) (O := O) (l := ilst D (deepL needs 6) :: cel2 L (some (.ref D)) :: tsi S :: tsd w S .none (.int 0 t3) (.int 0 t4) :: n2i S 6 :: nis S ((built needs).1) :: sls S ((built needs).2) :: cel4 L none :: cel5 L none :: cel6 L none :: cel7 L (some (.ref S.a)) :: tabq 160 lamq cs :: []) X' hn hp hidx (St.perm H7 (by exact permP_perm [] _)) ?_
    intro s8 H8
    dsimp only
    refine wpAny_execs_cons ?_
    refine stage8 (needs := needs) (S := S) (t3 := t3) (t4 := t4) (l := ilst O out :: outer T :: sls T needs :: cel1 L (some (.ref T.a)) :: cel3 L (some (.ref O)) :: ilst D (deepL needs 6) :: cel2 L (some (.ref D)) :: cel4 L none :: cel5 L none :: cel6 L none :: tabq 160 lamq cs :: []) X' hn hbl hno (St.perm H8 (by exact permP_perm [8, 8, 8, 8, 8, 3, 10] _)) ?_
    intro q s9 H9
    dsimp only
    refine wpAny_execs_cons ?_
    refine stage9 (needs := needs) (S := S) (r := q) (D := D) (t3 := t3) (t4 := t4) (v4 := none) (v5 := none) (v6 := none) (cs := cs) (l := ilst O out :: outer T :: sls T needs :: cel1 L (some (.ref T.a)) :: cel3 L (some (.ref O)) :: []) X' hn hd (St.perm H9 (by exact permP_perm [0, 0, 0, 0, 0, 0, 7, 0, 6, 6, 6, 6, 0, 5] _)) ?_
    intro np c t5 t6 cs2 s10 H10
    dsimp only
    refine wpAny_execs_cons ?_
    refine stage10 (np := np) (succ := (built needs).2) (S := S) (r := q) (c := c) (t3 := t5) (t4 := t6) (cs := cs2) (l := ilst O out :: outer T :: sls T needs :: cel1 L (some (.ref T.a)) :: cel3 L (some (.ref O)) :: []) X' (St.perm H10 (by exact permP_perm [] _)) ?_
    intro cs3 s11 H11
    dsimp only
    exact h B' cs3 s11 hB (H11.sub (by exact sub_of [true, false, false, false, false, false] rfl))
end
end
section
open PySem PySem.W PyProof.Rows PySem.Calls PySem.Spec
noncomputable abbrev base (s₁ : Shared) : Bs := ⟨ghostOf s₁.heap [(162, 160)], s₁.gens, s₁.drawn, s₁.os⟩
theorem base_start {s₁ : Shared} (hT : TabsAt [(162, 160)] s₁.heap) : St (base s₁) s₁ (tabq 160 lamq [] :: []) := by
  refine ⟨rfl, rfl, rfl, fun b o e => of_hideAll _ e, fun x hx => ?_, fun x hx a ha => ?_, List.pairwise_singleton _ _⟩
  · rw [List.mem_singleton.mp hx]
    exact ⟨#[], (hT _ (.head _)).2, trivial, fun pos cv e => (by cases e), fun c hc => absurd hc List.not_mem_nil⟩
  · rw [List.mem_singleton.mp hx] at ha
    rw [List.mem_singleton.mp ha]
    exact hideAll_none _ (.head _)
theorem sep_sorted {l : List Reg} (as : List Nat) (h : l.map (·.fp) = as.map fun a => [a]) (hs : as.Pairwise (· < ·)) : l.Pairwise (fun r r' => ∀ a ∈ r.fp, a ∉ r'.fp) := by
  have : (l.map (·.fp)).Pairwise (fun x y => ∀ a ∈ x, a ∉ y) := by
    rw [h]
    exact List.Pairwise.map _ (fun a b n c hc hd => Nat.ne_of_lt n ((List.mem_singleton.mp hc).symm.trans (List.mem_singleton.mp hd))) hs
  exact List.pairwise_map.mp this
theorem fp_in {l : List Reg} (as : List Nat) (h : l.map (·.fp) = as.map fun a => [a]) (r : Reg) (hr : r ∈ l) (a : Addr) (ha : a ∈ r.fp) : a ∈ as := by
  have : r.fp ∈ l.map (·.fp) := List.mem_map.mpr ⟨r, hr, rfl⟩
  rw [h] at this
  obtain ⟨b, hb, e⟩ := List.mem_map.mp this
  rw [← e] at ha
  rw [List.mem_singleton.mp ha]; exact hb
theorem law_start {s₁ : Shared} {h₁ : Heap} {tk : Nat} {L r : Addr} {m : Str → Option Value} {o1 o2 o3 o4 o5 o6 o7 : Obj} (hT : TabsAt [(162, 160)] s₁.heap) (hL : s₁.heap.objs.size = L) (F : Fr s₁.heap L h₁ m) (hm : m (Str.ofString "script") = some (.ref r))
    (N : News s₁.heap L h₁ [(L + 1 + 1 + 1 + 1 + 1 + 1 + 1, o7), (L + 1 + 1 + 1 + 1 + 1 + 1, o6), (L + 1 + 1 + 1 + 1 + 1, o5), (L + 1 + 1 + 1 + 1, o4), (L + 1 + 1 + 1, o3), (L + 1 + 1, o2), (L + 1, o1)])
    (d1 : o1.data = .cell none) (d2 : o2.data = .cell none) (d3 : o3.data = .cell none) (d4 : o4.data = .cell none) (d5 : o5.data = .cell none) (d6 : o6.data = .cell none) (d7 : o7.data = .cell none) :
    St (base s₁) { heap := h₁, gens := s₁.gens, drawn := s₁.drawn, toks := tk, os := s₁.os } (frame L [(Str.ofString "script", .ref r)] :: cel1 L none :: cel2 L none :: cel3 L none :: cel4 L none :: cel5 L none :: cel6 L none :: cel7 L none :: tabq 160 lamq [] :: []) := by
  have z : ∀ a, L ≤ a → s₁.heap.get? a = none := fun a ha => Heap.get?_none_of_le (hL ▸ ha)
  have key := St.addAll (frame L [(Str.ofString "script", .ref r)] :: cel1 L none :: cel2 L none :: cel3 L none :: cel4 L none :: cel5 L none :: cel6 L none :: cel7 L none :: [])
    (s' := { heap := h₁, gens := s₁.gens, drawn := s₁.drawn, toks := tk, os := s₁.os }) (base_start hT) rfl rfl rfl (fun a o e => F.keep a o e) ?_ ?_ ?_
  · exact key
  · refine List.forall_mem_cons.mpr ⟨⟨m, F.ns, fun x v e => ?_⟩, ?_⟩
    · rw [List.lookup_cons] at e
      by_cases q : x = Str.ofString "script"
      · subst q; rw [BEq.rfl] at e; cases e; exact hm
      · rw [beq_false_of_ne q] at e; cases e
    · refine List.forall_mem_cons.mpr ⟨⟨o1, N.get (.tail _ (.tail _ (.tail _ (.tail _ (.tail _ (.tail _ (.head _))))))), d1⟩, ?_⟩
      refine List.forall_mem_cons.mpr ⟨⟨o2, N.get (.tail _ (.tail _ (.tail _ (.tail _ (.tail _ (.head _)))))), d2⟩, ?_⟩
      refine List.forall_mem_cons.mpr ⟨⟨o3, N.get (.tail _ (.tail _ (.tail _ (.tail _ (.head _))))), d3⟩, ?_⟩
      refine List.forall_mem_cons.mpr ⟨⟨o4, N.get (.tail _ (.tail _ (.tail _ (.head _)))), d4⟩, ?_⟩
      refine List.forall_mem_cons.mpr ⟨⟨o5, N.get (.tail _ (.tail _ (.head _))), d5⟩, ?_⟩
      refine List.forall_mem_cons.mpr ⟨⟨o6, N.get (.tail _ (.head _)), d6⟩, ?_⟩
      refine List.forall_mem_cons.mpr ⟨⟨o7, N.get (.head _), d7⟩, ?_⟩
      exact fun _ h => absurd h List.not_mem_nil
  · exact fun r hr a ha => z a ((List.mem_map.mp (fp_in (l := _ :: _ :: _ :: _ :: _ :: _ :: _ :: _ :: []) ((List.range 8).map (L + ·)) rfl r hr a ha)).elim fun k hk => hk.2 ▸ Nat.le_add_right L k)
  · exact sep_sorted ((List.range 8).map (L + ·)) rfl (List.Pairwise.map _ (fun a b h => Nat.add_lt_add_left h L) List.pairwise_lt_range)
theorem law_at {w : World} {s₁ : Shared} {L fa : Addr} {mg mb : Str → Option Value} {p : Program} {loose : List Str} {mean : ExcName → Option Value} (hT : TabsAt [(162, 160)] s₁.heap) (K : (hd.heap_39 w.params).In s₁.heap) (T : Top p loose mean mg mb s₁.heap) :
    LawAt w (callerA.deeper (lawE L fa)) (base s₁) mg L fa := by
  have T' := ghost_top hT T
  have C' := ghost_code hT
  refine ⟨⟨ghost_K hT K (by kernel_rfl), ⟨mg, T'.g⟩, ⟨mb, T'.b, T'.builtins⟩, T'.nolimit⟩, ?_, rfl, ?_, Around.frames_deeper rfl, ⟨T'.g, C'.1, T'.bmain⟩⟩
  · show callerA.depth + _ < 700; decide
  · show callerA.units + _ < 8000; decide
theorem law_old {s₁ s' : Shared} {B' : Bs} {cs : List Addr} {l : List Reg} (hT : TabsAt [(162, 160)] s₁.heap) (hB : GS (base s₁) B') (H : St B' s' (tabq 160 lamq cs :: l)) : OldK s₁.heap s'.heap := by
  obtain ⟨hc, h0⟩ := hT _ (.head _)
  obtain ⟨ps, hP, _⟩ := H.head
  have keep : ∀ b o, b ≠ 160 → s₁.heap.get? b = some o → s'.heap.get? b = some o := fun b o n e => H.keep b o (by rw [hB.1]; exact ghost_ne e (by simpa using n))
  refine ⟨fun b o e => ?_, fun b o e => ?_⟩
  · by_cases q : b = 160
    · subst q
      have e' : s₁.heap.get? 160 = some (tabObj #[]) := h0
      rw [e] at e'; cases e'
      exact .inr (.inl ⟨(hc.tab h0).isCodeTable, rfl, #[], ps, rfl, by rw [Array.empty_append]; exact hP⟩)
    · exact .inl (keep b o q e)
  · by_cases q : b = 160
    · subst q; exact ⟨_, hP⟩
    · exact ⟨o, keep b o q e⟩
set_option tactic.hygienic true in
theorem law_proved : PySem.Challenge.rw_xc0002_01.Holds := by
  refine Mine.hd ?_
  k_fill
  intro w s₀ s₁ mg mb G Y fa o pm cd doc dV kV ho hd hcd hD hmg hg args vals as hpre hlay hrd hwl hlo
  have KX := km_in_of Y
  km_tabs Y
  have X := (Ground.X G).1
  have V := (Ground.X G).2
  refine Ground.open G ?_
  intro T B D TE TW
  try (refine guard_noD D (by decide +kernel) ?_; clear D)
  km_lay T hmg ho hd cd
  clear hmg
  wrow_args hpre hlay hrd hwl hlo
  all_goals (first | refine callC_kw (enter_call ?_) | refine enter_call ?_)
  w_top on
  w_call any ho hd hcd hD T F
  rename_i hL _ _ _ hI _ hlen _ h₁ tk o7 o6 o5 o4 o3 o2 o1 d7 d6 d5 d4 d3 d2 d1 N X0
  have H := law_start (tk := tk) hT9 rfl F (by rfl) N d1 d2 d3 d4 d5 d6 d7
  refine wpAny_mono (law_body (law_at hT9 KX T) (ghost_list hT9 hL) hI (by (first | lia | omega)) H fun B' cs s' hB H' => ?_) (fun _ _ q => q) (fun _ _ q => q.elim)
  refine ⟨.inl ⟨_, _, [], rfl, fun _ => rfl, ReadsW.bool true, ?_, fun _ => ⟨List.nodup_nil, fun _ hm => nomatch hm⟩⟩, law_old hT9 hB H', H'.os.trans hB.2.1, ?_⟩
  · first | rfl | wrow_post
  · rw [H'.ge]; exact hB.2.2 (AllBare.of_eq hg)
end
end Mine
theorem PySem.Challenge.cw_xc0002_01_holds : PySem.Challenge.rw_xc0002_01.Holds :=
  Mine.law_proved
