import PyProof.Rows.All
import Wide.All
import OpenK.AllK
import Wide.FinOn
import PySem.Challenge.RW_kp0026_09
open PySem PySem.Calls PySem.Spec PySem.W PyProof.Rows
set_option Elab.async false
set_option linter.all false
namespace Mine
set_option maxRecDepth 100000 in
set_option maxHeartbeats 8000000 in
open_top hd for PySem.Challenge.rw_kp0026_09
theorem fill_all : (fun P : Params => hd.heap_39 P) = (fun P => hd.heap_39 P) ∧ PySem.Challenge.rw_kp0026_09 = PySem.Challenge.rw_kp0026_09 := by
  k_fill
  exact ⟨rfl, rfl⟩
-- part A1
noncomputable abbrev Led := Addr → Option Obj
noncomputable def Led.put (N : Led) (a : Addr) (o : Obj) : Led := fun b => if b = a then some o else N b
noncomputable def Led.nil : Led := fun _ => none
noncomputable def Led.Le (N N' : Led) : Prop := ∀ a o, N a = some o → N' a = some o
theorem Led.Le.refl (N : Led) : Led.Le N N := fun _ _ e => e
theorem Led.Le.trans {N N' N'' : Led} (h : Led.Le N N') (h' : Led.Le N' N'') : Led.Le N N'' := fun a o e => h' a o (h a o e)
theorem Led.Le.none {N N' : Led} (h : Led.Le N N') {a : Addr} (e : N' a = none) : N a = none := by
  cases q : N a with
  | none => rfl
  | some o => rw [h a o q] at e; cases e
theorem Led.put_none {N : Led} {a b : Addr} {o : Obj} (h : N b = none) (hne : b ≠ a) : (N.put a o) b = none := by simp [Led.put, hne, h]
theorem Led.put_same {N : Led} {a : Addr} {o : Obj} : (N.put a o) a = some o := by simp [Led.put]
theorem Led.put_ne {N : Led} {a b : Addr} {o : Obj} (h : b ≠ a) : (N.put a o) b = N b := by simp [Led.put, h]
theorem Led.le_put {N : Led} {a : Addr} {o : Obj} (h : N a = none) : Led.Le N (N.put a o) := fun b x e => by
  by_cases hb : b = a
  · subst hb; rw [h] at e; cases e
  · rw [Led.put_ne hb]; exact e

theorem Led.put_of {N : Led} {a b : Addr} {o o' : Obj} (h : N b = some o') (ha : N a = none) : (N.put a o) b = some o' := by
  have hne : b ≠ a := fun e => by rw [e, ha] at h; cases h
  rw [Led.put_ne hne]; exact h
/-- what stands behind: the state at the start; objects that nothing may change for a while (iterators) -/
structure Zx where
  sh : Shared
  prot : Led
noncomputable def Zx.of (s : Shared) : Zx := ⟨s, Led.nil⟩
noncomputable def Zx.add (z : Zx) (a : Addr) (o : Obj) : Zx := ⟨z.sh, z.prot.put a o⟩
/-- where the call stands: the frame's locals are m, the older heap h₀ is kept, the ledger N lies in the heap, all else is as in z -/
structure In (h₀ : Heap) (L : Addr) (m : PySem.Str → Option Value) (N : Led) (z : Zx) (s : Shared) : Prop where
  fr : Fr h₀ L s.heap m
  led : ∀ a o, N a = some o → s.heap.get? a = some o ∧ a ≠ L ∧ h₀.get? a = none
  prot : ∀ a o, z.prot a = some o → s.heap.get? a = some o ∧ a ≠ L ∧ h₀.get? a = none ∧ N a = none
  gens : s.gens = z.sh.gens
  drawn : s.drawn = z.sh.drawn
  os : s.os = z.sh.os

theorem keeps_refl (s : Shared) : Keeps s s := ⟨s.heap, s.toks, rfl, fun _ _ e => e⟩
theorem keeps_trans {s s' s'' : Shared} (h : Keeps s s') (h' : Keeps s' s'') : Keeps s s'' := by
  obtain ⟨h1, t1, rfl, k1⟩ := h
  obtain ⟨h2, t2, rfl, k2⟩ := h'
  exact ⟨h2, t2, rfl, fun b o e => k2 b o (k1 b o e)⟩
theorem keeps_toks (s : Shared) (tk : Nat) : Keeps s { s with toks := tk } := ⟨s.heap, tk, rfl, fun _ _ e => e⟩
theorem keeps_get {s s' : Shared} (k : Keeps s s') {b : Addr} {o : Obj} (e : s.heap.get? b = some o) : s'.heap.get? b = some o := by
  obtain ⟨h1, t1, rfl, k1⟩ := k; exact k1 b o e

section
variable {h₀ : Heap} {L : Addr} {m : PySem.Str → Option Value} {N : Led} {z : Zx} {s s' : Shared}
theorem In.keeps (I : In h₀ L m N z s) (k : Keeps s s') : In h₀ L m N z s' := by
  obtain ⟨h1, t1, rfl, k1⟩ := k
  exact ⟨⟨I.fr.ns.keeps k1, fun b o e => k1 b o (I.fr.keep b o e), I.fr.above⟩, fun a o e => ⟨k1 a o (I.led a o e).1, (I.led a o e).2⟩, fun a o e => ⟨k1 a o (I.prot a o e).1, (I.prot a o e).2⟩, I.gens, I.drawn, I.os⟩
theorem In.toks (I : In h₀ L m N z s) (tk : Nat) : In h₀ L m N z { s with toks := tk } := I.keeps (keeps_toks s tk)
theorem In.get (I : In h₀ L m N z s) {a : Addr} {o : Obj} (e : N a = some o) : s.heap.get? a = some o := (I.led a o e).1
theorem In.weaken {N' : Led} (I : In h₀ L m N' z s) (l : Led.Le N N') : In h₀ L m N z s := ⟨I.fr, fun a o e => I.led a o (l a o e), fun a o e => ⟨(I.prot a o e).1, (I.prot a o e).2.1, (I.prot a o e).2.2.1, l.none (I.prot a o e).2.2.2⟩, I.gens, I.drawn, I.os⟩
theorem In.fresh (I : In h₀ L m N z s) : N s.heap.objs.size = none := by
  cases e : N s.heap.objs.size with
  | none => rfl
  | some o => exact absurd (Heap.lt_size (I.get e)) (Nat.lt_irrefl _)
theorem In.alloc (I : In h₀ L m N z s) (o : Obj) (hf : o.isFreed = false := by rfl) : In h₀ L m (N.put s.heap.objs.size o) z { s with heap := s.heap.push o } := by
  have F := I.fr
  refine ⟨F.push o, fun a x e => ?_, fun a x e => ⟨Heap.get?_push_of_some _ (I.prot a x e).1, (I.prot a x e).2.1, (I.prot a x e).2.2.1, Led.put_none (I.prot a x e).2.2.2 (Nat.ne_of_lt (Heap.lt_size (I.prot a x e).1))⟩, I.gens, I.drawn, I.os⟩
  by_cases ha : a = s.heap.objs.size
  · subst ha
    rw [Led.put_same] at e; cases e
    have nw := News.push F (News.nil) o hf (s.heap.objs.size, o) (.head _)
    exact nw
  · rw [Led.put_ne ha] at e
    have := I.led a x e
    exact ⟨Heap.get?_push_of_some _ this.1, this.2⟩
theorem In.upd (I : In h₀ L m N z s) {a : Addr} {o o' : Obj} {f : Obj → Obj} (ha : N a = some o) (e : f o = o') (hf : o'.isFreed = false) : In h₀ L m (N.put a o') z { s with heap := s.heap.update a f } := by
  have D := I.led a o ha
  have F := I.fr
  obtain ⟨oL, es, ep, hL, r⟩ := F.ns
  refine ⟨⟨⟨oL, es, ep, (Heap.get?_update_ne _ _ _ _ (Ne.symm D.2.1)).trans hL, r⟩, fun b x q => (Heap.get?_update_ne _ _ _ _ fun z => ?_).trans (F.keep b x q), F.above⟩, fun b x q => ?_, fun b x q => ?_, I.gens, I.drawn, I.os⟩
  · have := D.2.2; rw [← z, q] at this; cases this
  rotate_left
  · have hb : b ≠ a := fun y => by have := (I.prot b x q).2.2.2; rw [y, ha] at this; cases this
    exact ⟨(Heap.get?_update_ne _ _ _ _ hb).trans (I.prot b x q).1, (I.prot b x q).2.1, (I.prot b x q).2.2.1, Led.put_none (I.prot b x q).2.2.2 hb⟩
  · by_cases hb : b = a
    · subst hb
      rw [Led.put_same] at q; cases q
      exact ⟨e ▸ Heap.get?_update_self _ D.1 (e ▸ hf), D.2⟩
    · rw [Led.put_ne hb] at q
      have P := I.led b x q
      exact ⟨(Heap.get?_update_ne _ _ _ _ hb).trans P.1, P.2⟩
/-- a change of the one object a by a road that says SameBut -/
theorem In.same (I : In h₀ L m N z s) {a : Addr} {o o' : Obj} {h' : Heap} {tk : Nat} (ha : N a = some o) (hs : Heap.SameBut a s.heap h') (e : h'.get? a = some o') : In h₀ L m (N.put a o') z { s with heap := h', toks := tk } := by
  have D := I.led a o ha
  have F := I.fr
  obtain ⟨oL, es, ep, hL, r⟩ := F.ns
  refine ⟨⟨⟨oL, es, ep, (hs.2 _ (Ne.symm D.2.1)).trans hL, r⟩, fun b x q => (hs.2 _ fun z => ?_).trans (F.keep b x q), F.above⟩, fun b x q => ?_, fun b x q => ?_, I.gens, I.drawn, I.os⟩
  · have := D.2.2; rw [← z, q] at this; cases this
  rotate_left
  · have hb : b ≠ a := fun y => by have := (I.prot b x q).2.2.2; rw [y, ha] at this; cases this
    exact ⟨(hs.2 _ hb).trans (I.prot b x q).1, (I.prot b x q).2.1, (I.prot b x q).2.2.1, Led.put_none (I.prot b x q).2.2.2 hb⟩
  · by_cases hb : b = a
    · subst hb
      rw [Led.put_same] at q; cases q
      exact ⟨e, D.2⟩
    · rw [Led.put_ne hb] at q
      have P := I.led b x q
      exact ⟨(hs.2 _ hb).trans P.1, P.2⟩
theorem In.set (I : In h₀ L m N z s) {m' : PySem.Str → Option Value} {h' : Heap} {tk : Nat} (hn : h'.Ns L m') (hs : Heap.SameBut L s.heap h') : In h₀ L m' N z { s with heap := h', toks := tk } :=
  ⟨I.fr.set hn hs, fun a o e => ⟨(hs.2 a (I.led a o e).2.1).trans (I.led a o e).1, (I.led a o e).2⟩, fun a o e => ⟨(hs.2 a (I.prot a o e).2.1).trans (I.prot a o e).1, (I.prot a o e).2⟩, I.gens, I.drawn, I.os⟩
end

/-- a change that spares all but one object of no ledger: a loop's iterator -/
theorem In.addProt {h₀ : Heap} {L : Addr} {m : PySem.Str → Option Value} {N : Led} {z : Zx} {s : Shared} (I : In h₀ L m N z s) {a : Addr} {o : Obj} (h : s.heap.get? a = some o) (h1 : a ≠ L) (h2 : h₀.get? a = none) (h3 : N a = none) : In h₀ L m N (z.add a o) s :=
  ⟨I.fr, I.led, fun b x e => by
    by_cases hb : b = a
    · subst hb
      have : some o = some x := (Led.put_same (N := z.prot)).symm.trans e
      cases this; exact ⟨h, h1, h2, h3⟩
    · exact I.prot b x ((Led.put_ne (N := z.prot) hb).symm.trans e), I.gens, I.drawn, I.os⟩
theorem In.dropProt {h₀ : Heap} {L : Addr} {m : PySem.Str → Option Value} {N : Led} {z : Zx} {s : Shared} {a : Addr} {o : Obj} (I : In h₀ L m N (z.add a o) s) (hz : z.prot a = none) : In h₀ L m N z s :=
  ⟨I.fr, I.led, fun b x e => I.prot b x (by
    have hb : b ≠ a := fun y => by rw [y, hz] at e; cases e
    exact (Led.put_ne (N := z.prot) hb).trans e), I.gens, I.drawn, I.os⟩
/-- the iterator's own step -/
theorem In.iter {h₀ : Heap} {L : Addr} {m : PySem.Str → Option Value} {N : Led} {z : Zx} {s : Shared} {a : Addr} (I : In h₀ L m N z s) (h1 : a ≠ L) (h2 : h₀.get? a = none) (h3 : N a = none) (h4 : z.prot a = none)
    {h' : Heap} {tk : Nat} (k : ∀ b o, b ≠ a → s.heap.get? b = some o → h'.get? b = some o) : In h₀ L m N z { s with heap := h', toks := tk } := by
  obtain ⟨oL, es, ep, hL, r⟩ := I.fr.ns
  refine ⟨⟨⟨oL, es, ep, k _ _ (Ne.symm h1) hL, r⟩, fun b o e => k b o (fun y => by rw [y, h2] at e; cases e) (I.fr.keep b o e), I.fr.above⟩,
    fun b o e => ⟨k b o (fun y => by rw [y, h3] at e; cases e) (I.led b o e).1, (I.led b o e).2⟩, fun b o e => ⟨k b o (fun y => by rw [y, h4] at e; cases e) (I.prot b o e).1, (I.prot b o e).2⟩, I.gens, I.drawn, I.os⟩
theorem In.keepsOf {h₀ : Heap} {L : Addr} {m : PySem.Str → Option Value} {N : Led} {z : Zx} {s : Shared} (I : In h₀ L m N z s) (e : z.sh.heap = h₀ := by rfl) : Keeps z.sh s := by
  refine ⟨s.heap, s.toks, ?_, e ▸ I.fr.keep⟩
  obtain ⟨g1, g2, g3⟩ := And.intro I.gens (And.intro I.drawn I.os)
  cases s; simp only at g1 g2 g3 ⊢; rw [g1, g2, g3]
/-- one name set -/
noncomputable def upd (m : PySem.Str → Option Value) (x : PySem.Str) (v : Value) : PySem.Str → Option Value := fun y => if y = x then some v else m y
theorem upd_same {m : PySem.Str → Option Value} {x : PySem.Str} {v : Value} : upd m x v x = some v := by simp [upd]
theorem upd_ne {m : PySem.Str → Option Value} {x y : PySem.Str} {v v' : Value} (hne : y ≠ x) (h : m y = some v) : upd m x v' y = some v := by simp [upd, hne, h]
theorem upd_hit {m : PySem.Str → Option Value} {x y : PySem.Str} {v v' : Value} (e : y = x) (h : v' = v) : upd m x v' y = some v := by simp [upd, e, h]
theorem ex_ne {m : PySem.Str → Option Value} {x y : PySem.Str} {v' : Value} {f : Tok → Value} (hne : y ≠ x) (h : ∃ t, m y = some (f t)) : ∃ t, upd m x v' y = some (f t) := by
  obtain ⟨t, h⟩ := h; exact ⟨t, upd_ne hne h⟩
theorem ex_int {m : PySem.Str → Option Value} {x : PySem.Str} {i j : Int} {u : Tok} (h : i = j) : ∃ t, upd m x (.int i u) x = some (.int j t) := ⟨u, by rw [h]; exact upd_same⟩
theorem ex_str {m : PySem.Str → Option Value} {x i j : PySem.Str} {u : Tok} (h : i = j) : ∃ t, upd m x (.str i u) x = some (.str j t) := ⟨u, by rw [h]; exact upd_same⟩
-- part A2
theorem absN (n : Int) : (if n < 0 then -n else n) = (n.natAbs : Int) := by split <;> omega
/-- the text's own objects and names, at a heap -/
structure Glo (K : Frag) (mg mb : PySem.Str → Option Value) (h : Heap) : Prop where
  X : K.In h
  g : h.Ns mainGlobals mg
  b : h.Ns builtinsNs mb
  nolimit : h.NoLimit
  builtins : ∀ x : PySem.Str, x ≠ "__name__" → mb x = bootBuiltins x
theorem Glo.keeps {K : Frag} {mg mb : PySem.Str → Option Value} {h h' : Heap} (G : Glo K mg mb h) (k : ∀ b o, h.get? b = some o → h'.get? b = some o) : Glo K mg mb h' :=
  ⟨G.X.keeps k, G.g.keeps k, G.b.keeps k, G.nolimit.keeps k, G.builtins⟩
theorem Glo.of {K : Frag} {p : Program} {loose : List PySem.Str} {mean : ExcName → Option Value} {mg mb : PySem.Str → Option Value} {h : Heap} (X : K.In h) (T : Top p loose mean mg mb h) : Glo K mg mb h := ⟨X, T.g, T.b, T.nolimit, T.builtins⟩

/-- room above: d frames, u units -/
structure Rm (A : Around) (d u : Nat) : Prop where
  handled : A.handled = none
  depth : A.depth + d < recursionLimit
  units : A.units + u < cLine
theorem Rm.deeper {A : Around} {d u : Nat} {env : Env} (R : Rm A (d + 1) (u + 3)) : Rm (A.deeper env) d u :=
  ⟨R.handled, by have := R.depth; show A.depth + 1 + d < _; omega, by have := R.units; show A.units + 3 + u < _; omega⟩
theorem Rm.less {A : Around} {d u d' u' : Nat} (R : Rm A d u) (hd : d' ≤ d := by omega) (hu : u' ≤ u := by omega) : Rm A d' u' :=
  ⟨R.handled, by have := R.depth; omega, by have := R.units; omega⟩

noncomputable def thenDo (M : Model) (A : Around) (env : Env) (rest : List Stmt) (Q : Flow → Shared → Prop) (E : Value → Shared → Prop) (f : Flow) (s : Shared) : Prop :=
  match f with
  | .next => wpAny M A (execs rest env) Q E s
  | f => Q f s

section
variable {M : Model} {A : Around} {E : Value → Shared → Prop} {s : Shared} {env : Env} {rest : List Stmt} {Q : Flow → Shared → Prop}
theorem x_nil (h : Q .next s) : wpAny M A (execs [] env) Q E s := wpAny_execs_nil h
theorem x_cons {st : Stmt} (h : wpAny M A (exec st env) (thenDo M A env rest Q E) E s) : wpAny M A (execs (st :: rest) env) Q E s :=
  wpAny_execs_cons (wpAny_mono h (fun f s' x => by cases f <;> exact x) fun _ _ x => x)
theorem then_next (h : wpAny M A (execs rest env) Q E s) : thenDo M A env rest Q E .next s := h
theorem then_ret {v : Value} (h : Q (.ret v) s) : thenDo M A env rest Q E (.ret v) s := h
theorem then_brk (h : Q .brk s) : thenDo M A env rest Q E .brk s := h
theorem then_cont (h : Q .cont s) : thenDo M A env rest Q E .cont s := h
theorem x_ret {e : Expr} {pos : Pos} (h : wpAny M A (eval e env) (fun v => Q (.ret v)) E s) : wpAny M A (execs (.Return (some e) pos :: rest) env) Q E s :=
  x_cons (wpAny_Return_some (wpAny_mono h (fun _ _ x => x) fun _ _ x => x))
theorem x_assign {x : PySem.Str} {p' pos : Pos} {value : Expr} (h : wpAny M A (eval value env) (fun v s₁ => wpAny M A (storeName env x v) (fun _ s₂ => wpAny M A (execs rest env) Q E s₂) E s₁) E s)
    (hs : swapsWith value (some (.Name x p')) pos.line env = pure false := by with_unfolding_all rfl) : wpAny M A (execs (.Assign [.Name x p'] value pos :: rest) env) Q E s :=
  x_cons (wpAny_Assign_Name h hs)
theorem x_aug {x : PySem.Str} {p' pos : Pos} {op : Operator} {value : Expr}
    (h : wpAny M A (loadName env x) (fun old s₁ => wpAny M A (eval value env) (fun v s₂ => wpAny M A (inplaceOp op old v) (fun r s₃ => wpAny M A (storeName env x r) (fun _ s₄ => wpAny M A (execs rest env) Q E s₄) E s₃) E s₂) E s₁) E s) :
    wpAny M A (execs (.AugAssign (.Name x p') op value pos :: rest) env) Q E s := x_cons (wpAny_AugAssign_Name h)
theorem x_if {test : Expr} {body orelse : List Stmt} {pos : Pos}
    (h : wpAny M A (isTrue test env (eval test env)) (fun b s₂ => if b = true then wpAny M A (execs body env) (thenDo M A env rest Q E) E s₂ else wpAny M A (execs orelse env) (thenDo M A env rest Q E) E s₂) E s) :
    wpAny M A (execs (.If test body orelse pos :: rest) env) Q E s := x_cons (wpAny_If h)
theorem x_while {test : Expr} {body orelse : List Stmt} {pos : Pos}
    (h : wpAny M A (exec (.While test body orelse pos) env) (thenDo M A env rest Q E) E s) :
    wpAny M A (execs (.While test body orelse pos :: rest) env) Q E s := x_cons h
theorem x_for {t it : Expr} {body orelse : List Stmt} {pos : Pos}
    (h : wpAny M A (exec (.For t it body orelse pos) env) (thenDo M A env rest Q E) E s) :
    wpAny M A (execs (.For t it body orelse pos :: rest) env) Q E s := x_cons h

theorem if_dec {p : Prop} [Decidable p] {a b : Prop} (h : p → a) (h' : ¬ p → b) : if (decide p) = true then a else b := by
  by_cases q : p <;> simp [q, h, h']
theorem if_ndec {p : Prop} [Decidable p] {a b : Prop} (h : ¬ p → a) (h' : p → b) : if (!decide p) = true then a else b := by
  by_cases q : p <;> simp [q, h, h']
theorem if_bool {c : Bool} {a b : Prop} (h : c = true → a) (h' : c = false → b) : if c = true then a else b := by
  cases c <;> simp_all
theorem if_beq {α : Type} [BEq α] [LawfulBEq α] {x y : α} {a b : Prop} (h : x = y → a) (h' : x ≠ y → b) : if (x == y) = true then a else b := by
  by_cases q : x = y <;> simp [q, h, h']
theorem if_t {a b : Prop} (h : a) : if true = true then a else b := by simpa using h
theorem if_f {a b : Prop} (h : b) : if false = true then a else b := by simpa using h
/-- code that raises nothing, taken where anything may stand for a raise -/
theorem noRaise {α : Type} {t : Sem α} {Q : α → Shared → Prop} (h : wpAny M A t Q (fun _ _ => False) s) : wpAny M A t Q E s :=
  wpAny_mono h (fun _ _ x => x) fun _ _ x => x.elim
end

section
variable {prog : Program} {w : World} {A : Around} {E : Value → Shared → Prop} {h₀ : Heap} {m : PySem.Str → Option Value} {N : Led} {z : Zx} {s : Shared} {env : Env} {K : Frag} {mg mb : PySem.Str → Option Value}

theorem r_store {x : PySem.Str} {v : Value} {Q : Unit → Shared → Prop} (I : In h₀ env.locals m N z s) (h : ∀ s', In h₀ env.locals (upd m x v) N z s' → Q () s')
    (hk : env.scope.kind = .function := by with_unfolding_all rfl) (hl : env.kindOf x = some .local := by with_unfolding_all rfl) :
    wpAny (model prog w) A (storeName env x v) Q E s :=
  wpAny_storeName_local hl I.fr.ns (fun h' hn hs => h _ (I.set hn hs)) (by rw [hk]; rfl)
theorem r_load {x : PySem.Str} {v : Value} {Q : Value → Shared → Prop} (I : In h₀ env.locals m N z s) (hv : m x = some v) (h : Q v s)
    (hk : env.scope.kind = .function := by with_unfolding_all rfl) (hl : env.kindOf x = some .local := by with_unfolding_all rfl) : wpAny (model prog w) A (loadName env x) Q E s := wpAny_loadName_local hk hl I.fr.ns hv h
theorem r_name {x : PySem.Str} {pos : Pos} {v : Value} {Q : Value → Shared → Prop} (I : In h₀ env.locals m N z s) (hv : m x = some v) (h : Q v s)
    (hk : env.scope.kind = .function := by with_unfolding_all rfl) (hl : env.kindOf x = some .local := by with_unfolding_all rfl) (hd : (x == ("__debug__" : PySem.Str)) = false := by decide) :
    wpAny (model prog w) A (eval (.Name x pos) env) Q E s := wpAny_Name (wpAny_loadName_local hk hl I.fr.ns hv h) hd
theorem r_global {x : PySem.Str} {pos : Pos} {v : Value} {Q : Value → Shared → Prop} (G : Glo K mg mb h₀) (I : In h₀ env.locals m N z s) (e : nsIn K mainGlobals x = some (some v)) (h : Q v s)
    (hg : env.globals = mainGlobals := by with_unfolding_all rfl)
    (hk : env.scope.kind = .function := by with_unfolding_all rfl) (hl : env.kindOf x = some .globalImplicit := by with_unfolding_all rfl) (hd : (x == ("__debug__" : PySem.Str)) = false := by decide) :
    wpAny (model prog w) A (eval (.Name x pos) env) Q E s := Name_function_global hk hl (loadGlobal_global (by rw [hg]; exact G.g.keeps I.fr.keep) (mg_of G.X G.g e) h) hd
theorem r_builtin {x : PySem.Str} {pos : Pos} {v : Value} {Q : Value → Shared → Prop} (G : Glo K mg mb h₀) (I : In h₀ env.locals m N z s) (e : nsIn K mainGlobals x = some none) (hv : bootBuiltins x = some v) (h : Q v s)
    (hn : x ≠ "__name__" := by decide) (hg : env.globals = mainGlobals := by with_unfolding_all rfl) (hb : env.builtins = builtinsNs := by with_unfolding_all rfl)
    (hk : env.scope.kind = .function := by with_unfolding_all rfl) (hl : env.kindOf x = some .globalImplicit := by with_unfolding_all rfl) (hd : (x == ("__debug__" : PySem.Str)) = false := by decide) :
    wpAny (model prog w) A (eval (.Name x pos) env) Q E s :=
  Name_function_global hk hl (loadGlobal_builtin (by rw [hg]; exact G.g.keeps I.fr.keep) (mg_none_of G.X G.g e) (by rw [hb]; exact G.b.keeps I.fr.keep) ((G.builtins x hn).trans hv) h) hd

theorem r_str {x : PySem.Str} {k : Nat} {pos : Pos} {Q : Value → Shared → Prop} (I : In h₀ env.locals m N z s) (h : ∀ t s', In h₀ env.locals m N z s' → Q (.str x t) s') : wpAny (model prog w) A (eval (.Constant (.str x) k pos) env) Q E s :=
  Calls.Constant_str (h _ _ (I.toks _))
theorem r_int {x : Int} {k : Nat} {pos : Pos} {Q : Value → Shared → Prop} (I : In h₀ env.locals m N z s) (h : ∀ t s', In h₀ env.locals m N z s' → Q (.int x t) s') : wpAny (model prog w) A (eval (.Constant (.int x) k pos) env) Q E s :=
  wpAny_Constant_int (h _ _ (I.toks _))
theorem r_addS {L : Addr} {x y : PySem.Str} {t u : Tok} {Q : Value → Shared → Prop} (I : In h₀ L m N z s) (h : ∀ t s', In h₀ L m N z s' → Q (.str (x ++ y) t) s') (hsz : x.length + y.length ≤ sizeLine) :
    wpAny (model prog w) A (binaryOp .Add (.str x t) (.str y u)) Q E s := add_str (fun _ _ => h _ _ (I.toks _)) hsz
theorem r_pow {L : Addr} {a n : Int} {t u : Tok} {Q : Value → Shared → Prop} (I : In h₀ L m N z s) (h0 : 0 ≤ n) (h1 : n ≤ 1000000) (h2 : a.natAbs < 2 ^ 64) (h : ∀ t s', In h₀ L m N z s' → Q (.int (a ^ n.toNat) t) s') :
    wpAny (model prog w) A (binaryOp .Pow (.int a t) (.int n u)) Q E s := pow_int_small h0 h1 h2 (h _ _ (I.toks _))
theorem r_mod {L : Addr} {a b : Int} {t u : Tok} {Q : Value → Shared → Prop} (I : In h₀ L m N z s) (hb : b ≠ 0) (h : ∀ t s', In h₀ L m N z s' → Q (.int (Int.fmod a b) t) s') :
    wpAny (model prog w) A (binaryOp .Mod (.int a t) (.int b u)) Q E s := mod_int' hb (h _ _ (I.toks _))
theorem r_div {L : Addr} {a b : Int} {t u : Tok} {Q : Value → Shared → Prop} (I : In h₀ L m N z s) (hb : b ≠ 0) (h : ∀ t s', In h₀ L m N z s' → Q (.int (Int.fdiv a b) t) s')
    (hp : Builtin.divisionGoesByPylong a b = false ∨ PylongRoom (model prog w) A s) :
    wpAny (model prog w) A (binaryOp .FloorDiv (.int a t) (.int b u)) Q E s := floordiv_int hb (h _ _ (I.toks _)) hp
theorem r_abs {L : Addr} {a : Int} {t : Tok} {Q : Value → Shared → Prop} (I : In h₀ L m N z s) (h : ∀ t s', In h₀ L m N z s' → Q (.int (a.natAbs : Int) t) s') :
    wpAny (model prog w) A (call (.builtin "abs") [.int a t]) Q E s := call_abs_int fun _ _ => by rw [absN]; exact h _ _ (I.toks _)
theorem r_gt {a b : Int} {t u : Tok} {Q : Value → Shared → Prop} (h : Q (.bool (decide (b < a))) s) : wpAny (model prog w) A (compareOp .Gt (.int a t) (.int b u)) Q E s := gt_int h

/-- a call of a def of the text that changes nothing older: from its body's walk -/
theorem call_fn {f : Addr} {pos : List Value} {kw : List (PySem.Str × Value)} {name qual : PySem.Str} {params : Arguments} {body : List Stmt} {scope : Scope} {cl : List (PySem.Str × Addr)} {dV kV doc pm cdv ct oc : Value} {an od : Option Addr} {osl : Array (Option Value)}
    (binds : List (PySem.Str × Value)) (P : Value → Shared → Prop) (G : Glo K mg mb s.heap) (hroom : A.depth < recursionLimit)
    (ho : K.lookup f = some ⟨oc, od, .func (fnX name qual params body scope cl dV kV doc pm an cdv ct), osl⟩) (hcd : codeIn K cdv qual = true)
    (hbind : BindsTo s (fnX name qual params body scope cl dV kV doc pm an cdv ct) ⟨pos, kw⟩ binds)
    (hcell : ∀ x ∈ scope.names, x.2 ≠ .cell) (hloc : ∀ x ∈ binds, scope.names.lookup x.1 = some .local)
    (hco : scope.isCoroutine = false) (hgen : scope.isGenerator = false) (hk : scope.kind = .function)
    (h : ∀ s₁, In s.heap s.heap.objs.size (fun x => binds.reverse.lookup x) Led.nil (Zx.of s) s₁ →
      wpAny (model prog w) (A.deeper (envX qual scope s.heap.objs.size f cdv cl)) (execs body (envX qual scope s.heap.objs.size f cdv cl))
        (fun fl s' => P (match fl with | .ret v => v | _ => .none) s' ∧ ∃ L m N, In s.heap L m N (Zx.of s) s') (fun _ _ => False) s₁) :
    wpAny (model prog w) A (call (.ref f) pos kw) (fun v s' => P v s' ∧ Keeps s s') E s := by
  refine wpAny_call (codeAny_call_def (binds := binds) hroom (G.X _ _ ho) rfl G.nolimit (codeRec_of G.X hcd) rfl hbind hcell hloc (fun h₁ hns hk₁ => ?_) hco hgen hk)
  refine wpAny_mono (h { s with heap := h₁, toks := s.toks + binds.length } ⟨⟨hns, hk₁, Nat.le_refl _⟩, fun a o e => (by cases e), fun a o e => (by cases e), rfl, rfl, rfl⟩) (fun fl s' x => ?_) fun _ _ x => x.elim
  obtain ⟨hP, L, m', N', I⟩ := x
  exact ⟨hP, I.keepsOf (z := Zx.of s)⟩
end

/-- a call within a walk: by what is shown of it -/
theorem r_call {prog : Program} {w : World} {A : Around} {E : Value → Shared → Prop} {h₀ : Heap} {L : Addr} {m : PySem.Str → Option Value} {N : Led} {z : Zx} {s : Shared} {t : Sem Value} {P : Value → Shared → Prop} {Q : Value → Shared → Prop}
    (I : In h₀ L m N z s) (c : wpAny (model prog w) A t (fun v s' => P v s' ∧ Keeps s s') (fun _ _ => False) s) (h : ∀ v s', P v s' → Keeps s s' → In h₀ L m N z s' → Q v s') : wpAny (model prog w) A t Q E s :=
  wpAny_mono c (fun v s' x => h v s' x.1 x.2 (I.keeps x.2)) fun _ _ x => x.elim

/-- a while by a state of its own and a measure, its body raising nothing -/
theorem r_while {σ : Type} {prog : Program} {w : World} {A : Around} {E : Value → Shared → Prop} {h₀ : Heap} {N : Led} {z : Zx} {s : Shared} {env : Env} {test : Expr} {body : List Stmt} {pos : Pos} {Q : Flow → Shared → Prop}
    (J : σ → (PySem.Str → Option Value) → Prop) (μ : σ → Nat) (c₀ : σ) {m : PySem.Str → Option Value} (I : In h₀ env.locals m N z s) (hJ : J c₀ m)
    (turn : ∀ c m s, In h₀ env.locals m N z s → J c m → wpAny (model prog w) A (isTrue test env (eval test env)) (fun b s₂ =>
      if b = true then wpAny (model prog w) A (execs body env) (fun f s₃ => f = .next ∧ ∃ c' m', μ c' < μ c ∧ J c' m' ∧ In h₀ env.locals m' N z s₃) (fun _ _ => False) s₂
      else Q .next s₂) (fun _ _ => False) s) :
    wpAny (model prog w) A (exec (.While test body [] pos) env) Q E s := by
  refine wpAny_While (codeAny_mono (codeAny_whileLoop (R := fun r s' => ∃ f, r = .ok f ∧ Q f s') (fun n s => ∃ c m, μ c = n ∧ J c m ∧ In h₀ env.locals m N z s) ?_ (μ c₀) ⟨c₀, m, rfl, hJ, I⟩) ?_)
  · rintro n s ⟨c, m, rfl, hJ, I⟩
    refine wpAny_mono (turn c m s I hJ) (fun b s₂ x => ?_) fun _ _ x => x.elim
    cases b with
    | true =>
      rw [if_pos rfl] at x ⊢
      refine wpAny_mono x (fun f s₃ y => ?_) fun _ _ x => x.elim
      obtain ⟨rfl, c', m', hl, hJ', I'⟩ := y
      exact ⟨μ c', hl, c', m', rfl, hJ', I'⟩
    | false =>
      rw [if_neg Bool.false_ne_true] at x ⊢
      exact wpAny_execs_nil ⟨_, rfl, x⟩
  · rintro r s' ⟨f, rfl, q⟩
    exact q

theorem r_none {M : Model} {A : Around} {E : Value → Shared → Prop} {s : Shared} {env : Env} {k : Nat} {pos : Pos} {Q : Value → Shared → Prop} (h : Q .none s) : wpAny M A (eval (.Constant .none k pos) env) Q E s := fun _ _ _ => h
theorem r_bool {M : Model} {A : Around} {E : Value → Shared → Prop} {s : Shared} {env : Env} {b : Bool} {k : Nat} {pos : Pos} {Q : Value → Shared → Prop} (h : Q (.bool b) s) : wpAny M A (eval (.Constant (.bool b) k pos) env) Q E s := fun _ _ _ => h
section
variable {prog : Program} {w : World} {A : Around} {E : Value → Shared → Prop} {h₀ : Heap} {m : PySem.Str → Option Value} {N : Led} {z : Zx} {s : Shared} {L : Addr}
theorem r_iaddS {x y : PySem.Str} {t u : Tok} {Q : Value → Shared → Prop} (I : In h₀ L m N z s) (h : ∀ t s', In h₀ L m N z s' → Q (.str (x ++ y) t) s') (hsz : x.length + y.length ≤ sizeLine) :
    wpAny (model prog w) A (inplaceOp .Add (.str x t) (.str y u)) Q E s := PyProof.Rows.iadd_str (fun _ _ => h _ _ (I.toks _)) hsz
theorem r_itemS {value slice : Expr} {x : PySem.Str} {t u : Tok} {i : Int} {Q : Value → Shared → Prop} (I : In h₀ L m N z s) (h0 : 0 ≤ i) (h1 : i < (x.length : Int)) (hn : x.length ≤ 16777216)
    (h : ∀ t s', In h₀ L m N z s' → Q (.str ⟨#[x.cps.getD i.toNat 0]⟩ t) s')
    (hs : subscripted slice false (.str x t) (.int i u) = operate [.str x t, .int i u] (getItem (.str x t) (.int i u)) := by with_unfolding_all rfl)
    (ht : ∀ r, letTemporaryGo value (.str x t) r = pure () := by intro _; with_unfolding_all rfl) :
    wpAny (model prog w) A (subscriptTail value slice (.str x t) (.int i u)) Q E s := by
  refine PySem.W.KXi.item (n := x.length) rfl (by omega) h1 hn (fun _ => ?_) hs ht
  have e : Txt.item x i = ⟨#[x.cps.getD i.toNat 0]⟩ := by
    have hi : i.toNat < x.cps.size := by have : x.length = x.cps.size := rfl; omega
    show (⟨#[((seqIndex? i x.length).bind (x.cps[·]?)).getD 0]⟩ : PySem.Str) = _
    have e1 : seqIndex? i x.length = some i.toNat := by
      unfold seqIndex?
      simp only [show ¬ i < 0 by omega, if_false]
      simp [h0, h1]
    rw [e1]
    simp [Array.getD, hi]
  rw [e]; exact h _ _ (I.toks _)
theorem r_addI {a b : Int} {t u : Tok} {Q : Value → Shared → Prop} (I : In h₀ L m N z s) (h : ∀ t s', In h₀ L m N z s' → Q (.int (a + b) t) s') :
    wpAny (model prog w) A (binaryOp .Add (.int a t) (.int b u)) Q E s := add_int (h _ _ (I.toks _))
theorem r_mulI {a b : Int} {t u : Tok} {Q : Value → Shared → Prop} (I : In h₀ L m N z s) (hm : Builtin.Int.intBits a ≤ 64) (h : ∀ t s', In h₀ L m N z s' → Q (.int (a * b) t) s') :
    wpAny (model prog w) A (binaryOp .Mult (.int a t) (.int b u)) Q E s := mul_int (h _ _ (I.toks _)) (IntMulOk.of_left hm)
theorem r_subI {a b : Int} {t u : Tok} {Q : Value → Shared → Prop} (I : In h₀ L m N z s) (h : ∀ t s', In h₀ L m N z s' → Q (.int (a - b) t) s') :
    wpAny (model prog w) A (binaryOp .Sub (.int a t) (.int b u)) Q E s := sub_int (h _ _ (I.toks _))
end

noncomputable def KeptIn (h₀ : Heap) (s : Shared) (P : Prop) : Prop := (∀ b o, h₀.get? b = some o → s.heap.get? b = some o) ∧ P
theorem kept_in {h₀ : Heap} {L : Addr} {m : PySem.Str → Option Value} {N : Led} {z : Zx} {s : Shared} {P : Prop} (I : In h₀ L m N z s) (h : P) : KeptIn h₀ s P := ⟨I.fr.keep, h⟩
theorem r_cwf {M : Model} {A : Around} {E : Value → Shared → Prop} {h₀ : Heap} {s : Shared} {env : Env} {K : Frag} {mg mb : PySem.Str → Option Value} {pos : Pos} {f : Addr} {e : Expr} {rest : List Expr} {Q : Value → Shared → Prop}
    (G : Glo K mg mb h₀) (ho : fnIn K f = true) (h : wpAny M A (spliced (backTo pos (starEach (e :: rest) env))) (fun vs s₁ => KeptIn h₀ s₁ (wpAny M A (call (.ref f) vs) Q E s₁)) E s)
    (h1 : starEach (e :: rest) env = (false, eval e env) :: starEach rest env) :
    wpAny M A (callWith pos (.ref f) [] (backTo pos (starEach (e :: rest) env)) []) Q E s :=
  by
  unfold fnIn at ho
  split at ho
  · rename_i oc od fd osl q
    exact callWith_meth (o := ⟨oc, od, .func fd, osl⟩) rfl (G.X _ _ q) h h1
  · cases ho
section
variable {prog : Program} {w : World} {A : Around} {E : Value → Shared → Prop} {h₀ : Heap} {m : PySem.Str → Option Value} {N : Led} {z : Zx} {s : Shared} {L : Addr}
theorem r_newList {vs : List Value} {Q : Value → Shared → Prop} (I : In h₀ L m N z s) (h : ∀ a s', N a = none → Keeps s s' → In h₀ L m (N.put a (listOf vs.toArray 0)) z s' → Q (.ref a) s') (hsz : vs.length ≤ sizeLine) :
    wpAny (model prog w) A (newList vs) Q E s :=
  wpAny_newObj_type (h _ _ I.fresh ⟨_, _, rfl, fun _ _ e => Heap.get?_push_of_some _ e⟩ (I.alloc _)) (by show vs.toArray.size ≤ sizeLine; rw [List.size_toArray]; exact hsz)
noncomputable abbrev tupleOf (vs : Array Value) : Obj := { cls := .type "tuple", data := .seq vs }
theorem r_newTuple {vs : List Value} {Q : Value → Shared → Prop} (I : In h₀ L m N z s) (h : ∀ a s', N a = none → Keeps s s' → In h₀ L m (N.put a (tupleOf vs.toArray)) z s' → Q (.ref a) s') (hsz : vs.length ≤ sizeLine) :
    wpAny (model prog w) A (newTuple vs) Q E s :=
  wpAny_newObj_type (h _ _ I.fresh ⟨_, _, rfl, fun _ _ e => Heap.get?_push_of_some _ e⟩ (I.alloc _)) (by show vs.toArray.size ≤ sizeLine; rw [List.size_toArray]; exact hsz)
theorem r_itemL {value slice : Expr} {l : Addr} {vs : List Value} {n : Nat} {k : Int} {u : Tok} {v : Value} {Q : Value → Shared → Prop} (I : In h₀ L m N z s) (hl : N l = some (listOf vs.toArray n)) (h0 : 0 ≤ k) (h1 : k < 2 ^ 63) (hx : vs[k.toNat]? = some v) (h : Q v s)
    (hs : subscripted slice false (.ref l) (.int k u) = operate [.ref l, .int k u] (getItem (.ref l) (.int k u)) := by with_unfolding_all rfl) :
    wpAny (model prog w) A (subscriptTail value slice (.ref l) (.int k u)) Q E s :=
  have hL : s.heap.IsList l vs.toArray := ⟨_, I.get hl, rfl, _, rfl⟩
  tail_any hL.typeIs slot_list_getitem.lookup (wpAny_getItem_list hL h0 h1 (by simpa using hx) h) hs
end
theorem reads_keeps {s s' : Shared} {v : Value} {d : PyData} {as : List Addr} (k : Keeps s s') (r : Reads s.heap v d as) : Reads s'.heap v d as := by
  obtain ⟨h', t', rfl, k'⟩ := k; exact PyProof.Rows.Reads.keeps k' r
theorem reads_list {h : Heap} {a : Addr} {vs : List Value} {n : Nat} {ds : List PyData} {as : List Addr} (e : h.get? a = some (listOf vs.toArray n)) (r : ReadsAll h vs ds as) : Reads h (.ref a) (.list ds) (a :: as) := .list e rfl rfl r
theorem reads_tuple {h : Heap} {a : Addr} {vs : List Value} {ds : List PyData} {as : List Addr} (e : h.get? a = some (tupleOf vs.toArray)) (r : ReadsAll h vs ds as) : Reads h (.ref a) (.tuple ds) as := .tuple e rfl rfl r
theorem fmodN (a b : Nat) : Int.fmod (a : Int) (b : Int) = ((a % b : Nat) : Int) := by rw [Int.fmod_eq_emod_of_nonneg _ (by omega)]; rfl
theorem fdivN (a b : Nat) : Int.fdiv (a : Int) (b : Int) = ((a / b : Nat) : Int) := by rw [Int.fdiv_eq_ediv_of_nonneg _ (by omega)]; rfl
section
variable {prog : Program} {w : World} {A : Around} {E : Value → Shared → Prop} {h₀ : Heap} {m : PySem.Str → Option Value} {N : Led} {z : Zx} {s : Shared} {L : Addr}
theorem r_lenS {x : PySem.Str} {t : Tok} {Q : Value → Shared → Prop} (I : In h₀ L m N z s) (h : ∀ t s', In h₀ L m N z s' → Q (.int (x.length : Int) t) s') (hsz : x.length ≤ 16777216) :
    wpAny (model prog w) A (call (.builtin "len") [.str x t]) Q E s := P.len_str (by omega) (h _ _ (I.toks _))
end

/-- a value that «is» can be asked of -/
noncomputable def TokOk : Value → Prop
  | .str _ t => t ≠ 0
  | .int _ t => t ≠ 0
  | .ref _ => True
  | .none => True
  | .bool _ => True
  | _ => False
theorem isnot_self {M : Model} {A : Around} {E : Value → Shared → Prop} {s : Shared} {v : Value} {Q : Value → Shared → Prop} (hv : TokOk v) (h : Q (.bool false) s) : wpAny M A (compareOp .IsNot v v) Q E s := by
  show wpAny M A (do return .bool (!(← isSame v v))) Q E s
  refine wpAny_bind ?_
  have fin : wpAny M A (pure (Value.bool (!true)) : Sem Value) Q E s := wpAny_pure h
  have cr : ∀ t : Tok, t ≠ 0 → ∀ b, wpAny M A (isSame.created b t t) (fun b s => wpAny M A (pure (Value.bool (!b)) : Sem Value) Q E s) E s := by
    intro t ht b
    unfold isSame.created
    rw [if_neg (by simpa using ht), if_pos (beq_self_eq_true t)]
    exact wpAny_pure fin
  cases v with
  | ref a => exact wpAny_isSame_ref_self fin
  | none => exact wpAny_isSame_plain rfl (by rw [beq_self_eq_true]; exact fin)
  | bool b => exact wpAny_isSame_plain (by cases b <;> rfl) (by rw [beq_self_eq_true]; exact fin)
  | str y t => exact cr t hv _
  | int i t =>
    show wpAny M A (if (i == i && smallInt i) = true then isSame.cachedInt t t else isSame.created (i == i) t t) _ E s
    split
    · unfold isSame.cachedInt
      have ht : t ≠ 0 := hv
      rw [if_neg (by simpa using ht)]
      exact wpAny_bind (wpAny_rule (wpAny_pure fin))
    · exact cr t hv _
  | _ => exact hv.elim

section
variable {prog : Program} {w : World} {A : Around} {E : Value → Shared → Prop} {h₀ : Heap} {m : PySem.Str → Option Value} {N : Led} {z : Zx} {s : Shared} {L : Addr}
theorem r_storeT {env : Env} {x : PySem.Str} {v : Value} {Q : Unit → Shared → Prop} (I : In h₀ env.locals m N z s) (h : ∀ s', In h₀ env.locals (upd m x v) N z s' → 0 < s'.toks → Q () s')
    (hk : env.scope.kind = .function := by with_unfolding_all rfl) (hl : env.kindOf x = some .local := by with_unfolding_all rfl) :
    wpAny (model prog w) A (storeName env x v) Q E s :=
  wpAny_storeName_local hl I.fr.ns (fun h' hn hs => h _ (I.set hn hs) (Nat.succ_pos _)) (by rw [hk]; rfl)
theorem r_strT {env : Env} {x : PySem.Str} {k : Nat} {pos : Pos} {Q : Value → Shared → Prop} (I : In h₀ env.locals m N z s) (hp : 0 < s.toks) (h : ∀ t s', In h₀ env.locals m N z s' → t ≠ 0 → Q (.str x t) s') : wpAny (model prog w) A (eval (.Constant (.str x) k pos) env) Q E s :=
  Calls.Constant_str (h _ _ (I.toks _) (Nat.ne_of_gt hp))
theorem r_modT {a b : Int} {t u : Tok} {Q : Value → Shared → Prop} (I : In h₀ L m N z s) (hb : b ≠ 0) (h : ∀ t s', In h₀ L m N z s' → 0 < s'.toks → Q (.int (Int.fmod a b) t) s') :
    wpAny (model prog w) A (binaryOp .Mod (.int a t) (.int b u)) Q E s := mod_int' hb (h _ _ (I.toks _) (Nat.succ_pos _))
theorem r_mulT {a b : Int} {t u : Tok} {Q : Value → Shared → Prop} (I : In h₀ L m N z s) (hm : Builtin.Int.intBits a ≤ 64) (h : ∀ t s', In h₀ L m N z s' → 0 < s'.toks → Q (.int (a * b) t) s') :
    wpAny (model prog w) A (binaryOp .Mult (.int a t) (.int b u)) Q E s := mul_int (h _ _ (I.toks _) (Nat.succ_pos _)) (IntMulOk.of_left hm)
theorem r_subT {a b : Int} {t u : Tok} {Q : Value → Shared → Prop} (I : In h₀ L m N z s) (hp : 0 < s.toks) (h : ∀ t s', In h₀ L m N z s' → t ≠ 0 → Q (.int (a - b) t) s') :
    wpAny (model prog w) A (binaryOp .Sub (.int a t) (.int b u)) Q E s := sub_int (h _ _ (I.toks _) (Nat.ne_of_gt hp))
theorem r_itemST {value slice : Expr} {x : PySem.Str} {t u : Tok} {i : Int} {Q : Value → Shared → Prop} (I : In h₀ L m N z s) (hp : 0 < s.toks) (h0 : 0 ≤ i) (h1 : i < (x.length : Int)) (hn : x.length ≤ 16777216)
    (h : ∀ t s', In h₀ L m N z s' → t ≠ 0 → 0 < s'.toks → Q (.str ⟨#[x.cps.getD i.toNat 0]⟩ t) s')
    (hs : subscripted slice false (.str x t) (.int i u) = operate [.str x t, .int i u] (getItem (.str x t) (.int i u)) := by with_unfolding_all rfl)
    (ht : ∀ r, letTemporaryGo value (.str x t) r = pure () := by intro _; with_unfolding_all rfl) :
    wpAny (model prog w) A (subscriptTail value slice (.str x t) (.int i u)) Q E s := by
  refine PySem.W.KXi.item (n := x.length) rfl (by omega) h1 hn (fun _ => ?_) hs ht
  have e : Txt.item x i = ⟨#[x.cps.getD i.toNat 0]⟩ := by
    have hi : i.toNat < x.cps.size := by have : x.length = x.cps.size := rfl; omega
    show (⟨#[((seqIndex? i x.length).bind (x.cps[·]?)).getD 0]⟩ : PySem.Str) = _
    have e1 : seqIndex? i x.length = some i.toNat := by
      unfold seqIndex?
      simp only [show ¬ i < 0 by omega, if_false]
      simp [h0, h1]
    rw [e1]
    simp [Array.getD, hi]
  rw [e]; exact h _ _ (I.toks _) (Nat.ne_of_gt hp) (Nat.succ_pos _)
theorem r_iaddST {x y : PySem.Str} {t u : Tok} {Q : Value → Shared → Prop} (I : In h₀ L m N z s) (hp : 0 < s.toks) (ht : t ≠ 0) (hu : u ≠ 0) (h : ∀ t s', In h₀ L m N z s' → t ≠ 0 → Q (.str (x ++ y) t) s') (hsz : x.length + y.length ≤ sizeLine) :
    wpAny (model prog w) A (inplaceOp .Add (.str x t) (.str y u)) Q E s := by
  refine PyProof.Rows.inplaceOp_concat (typeIs_str s x t) (typeIs_str s y u) PySem.noI_str_add PySem.noFill_str_add PySem.seq_str_add (call_gives slot_str_add (typeIs_str s x t) entry_str_add (args_str_add _ _) (gives_str_add x y t u) ?_)
  have nil : ∀ q : PySem.Str, (q.length == 0) = true → q.cps = #[] := fun q e => Array.eq_empty_of_size_eq_zero (by simpa [PySem.Str.length] using e)
  by_cases hx : (x.length == 0) = true
  · rw [if_pos hx]
    have e : x ++ y = y := by
      show PySem.Str.append x y = y
      cases y; simp [PySem.Str.append, nil x hx]
    have := h u s I hu
    rw [e] at this; exact this
  · rw [if_neg hx]
    by_cases hy : (y.length == 0) = true
    · rw [if_pos hy]
      have e : x ++ y = x := by
        show PySem.Str.append x y = x
        cases x; simp [PySem.Str.append, nil y hy]
      have := h t s I ht
      rw [e] at this; exact this
    · rw [if_neg hy]
      exact ⟨by rw [strLen_append]; exact hsz, h _ _ (I.toks _) (Nat.ne_of_gt hp)⟩
end
-- part A3
/-- z' says no less than z -/
structure Zle (z z' : Zx) : Prop where
  sh : z'.sh = z.sh
  prot : Led.Le z.prot z'.prot
theorem Zle.refl (z : Zx) : Zle z z := ⟨rfl, Led.Le.refl _⟩
theorem Zle.trans {z z' z'' : Zx} (h : Zle z z') (h' : Zle z' z'') : Zle z z'' := ⟨h'.sh.trans h.sh, h.prot.trans h'.prot⟩
theorem In.drop {h₀ : Heap} {L : Addr} {m : PySem.Str → Option Value} {N : Led} {z z' : Zx} {s : Shared} (I : In h₀ L m N z' s) (l : Zle z z') : In h₀ L m N z s :=
  ⟨I.fr, I.led, fun a o e => I.prot a o (l.prot a o e), l.sh ▸ I.gens, l.sh ▸ I.drawn, l.sh ▸ I.os⟩

/-- a for over anything that Walks says of, its body raising nothing -/
theorem loop_walk {prog : Program} {w : World} {A : Around} {E : Value → Shared → Prop} {h₀ : Heap} {env : Env} {x : PySem.Str} {px : Pos} {body : List Stmt} {Q : Flow → Shared → Prop}
    {I : Addr} {fp : List Addr} {n : Nat} {P : Nat → Value → Prop} {St : Nat → Heap → Prop} {m : PySem.Str → Option Value} {N : Led} {z : Zx} {s : Shared}
    (Inv : Nat → (PySem.Str → Option Value) → Led → Prop) (W : Walks prog w A I fp [I] n P St) (hI : In h₀ env.locals m N z s)
    (h1 : I ≠ env.locals) (h2 : h₀.get? I = none) (hzp : z.prot I = none) (hN : N I = none) (hst : St 0 s.heap) (h0 : Inv 0 m N)
    (hfp : ∀ b ∈ fp, b ≠ I → ∃ ob, ∀ i m N s, Inv i m N → In h₀ env.locals m N z s → s.heap.get? b = some ob)
    (turn : ∀ i v m N z' s, i < n → P i v → Inv i m N → Zle z z' → In h₀ env.locals (upd m x v) N z' s → wpAny (model prog w) A (execs body env) (fun f s' => match f with
      | .ret v => Q (.ret v) s'
      | .brk => Q .next s'
      | _ => ∃ m' N', Inv (i + 1) m' N' ∧ In h₀ env.locals m' N' z' s') (fun _ _ => False) s)
    (hlate : ∀ i m N s, Inv i m N → In h₀ env.locals m N z s → N I = none)
    (done : ∀ m N s, Inv n m N → In h₀ env.locals m N z s → Q .next s)
    (hx : env.kindOf x = some .local) (hk : env.scope.kind = .function) :
    codeAny (model prog w) A (.forLoop (.Name x px) (.ref I) body [] env) (fun r s' => match r with | .ok f => Q f s' | .error e => cameBackBy (model prog w) A env E e s') s := by
  refine codeAny_mono (codeAny_forLoop (R := fun r s' => ∃ f, r = .ok f ∧ Q f s')
    (fun k s => ∃ i m N, k = n - i ∧ i ≤ n ∧ Inv i m N ∧ In h₀ env.locals m N z s ∧ St i s.heap) ?_ n ⟨0, m, N, rfl, Nat.zero_le _, h0, hI, hst⟩) ?_
  · rintro k s ⟨i, m, N, rfl, hi, hinv, hin, hst⟩
    have hNI := hlate i m N s hinv hin
    rcases Nat.lt_or_ge i n with hlt | hge
    · refine W.item i s _ _ hlt hst fun v h' tk hP hst' hk' => ?_
      have hin' : In h₀ env.locals m N z { s with heap := h', toks := tk } := hin.iter h1 h2 hNI hzp (fun b o hb e => hk' b o (fun hm => hb (List.mem_singleton.mp hm)) e)
      have key : ∃ z', Zle z z' ∧ In h₀ env.locals m N z' { s with heap := h', toks := tk } ∧ ∀ m' N' s', In h₀ env.locals m' N' z' s' → ∀ o, h'.get? I = some o → s'.heap.get? I = some o := by
        cases hg : h'.get? I with
        | none => exact ⟨z, Zle.refl z, hin', fun _ _ _ _ o e => by cases e⟩
        | some o =>
          refine ⟨z.add I o, ⟨rfl, Led.le_put hzp⟩, hin'.addProt hg h1 h2 hNI, fun m' N' s' x o' e => ?_⟩
          cases e
          exact (x.prot I o Led.put_same).1
      obtain ⟨z', hz, hin2, hkeep⟩ := key
      refine wpAny_assign_Name (r_store hin2 (fun s₂ I₂ => ?_) hk hx)
      refine wpAny_mono (turn i v m N z' s₂ hlt hP hinv hz I₂) (fun f s₃ y => ?_) fun _ _ y => y.elim
      have fin : (∃ m' N', Inv (i + 1) m' N' ∧ In h₀ env.locals m' N' z' s₃) → ∃ k', k' < n - i ∧ ∃ i m N, k' = n - i ∧ i ≤ n ∧ Inv i m N ∧ In h₀ env.locals m N z s₃ ∧ St i s₃.heap := by
        rintro ⟨m', N', hinv', hin3⟩
        refine ⟨n - (i + 1), by omega, i + 1, m', N', rfl, hlt, hinv', hin3.drop hz, W.frame _ _ _ hst' fun b hb o e => ?_⟩
        by_cases hbI : b = I
        · subst hbI; exact hkeep _ _ _ hin3 o e
        · obtain ⟨ob, hob⟩ := hfp b hb hbI
          have e1 := hob i m N _ hinv hin'
          have e2 := hob (i + 1) m' N' _ hinv' (hin3.drop hz)
          have e' : h'.get? b = some ob := e1
          rw [e'] at e; cases e; exact e2
      cases f with
      | ret v => exact ⟨_, rfl, y⟩
      | brk => exact ⟨_, rfl, y⟩
      | next => exact fin y
      | cont => exact fin y
    · have hin0 : i = n := by omega
      subst hin0
      refine W.done s _ _ hst fun h' tk hk' => ?_
      exact wpAny_execs_nil ⟨_, rfl, done m N _ hinv (hin.iter h1 h2 hNI hzp (fun b o hb e => hk' b o (fun hm => hb (List.mem_singleton.mp hm)) e))⟩
  · rintro r s' ⟨f, rfl, q⟩
    exact q

/-- a for over a text's signs -/
theorem r_forStr {prog : Program} {w : World} {A : Around} {E : Value → Shared → Prop} {h₀ : Heap} {env : Env} {x : PySem.Str} {px pos : Pos} {iter : Expr} {body : List Stmt} {Q : Flow → Shared → Prop}
    {m : PySem.Str → Option Value} {N : Led} {z : Zx} {s : Shared} {y : PySem.Str} {t : Tok}
    (Inv : Nat → (PySem.Str → Option Value) → Prop) (hh : A.handled = none) (hI : In h₀ env.locals m N z s) (h0 : Inv 0 m)
    (hit : ∀ Q', (∀ s', In h₀ env.locals m N z s' → Q' (.str y t) s') → wpAny (model prog w) A (eval iter env) Q' E s)
    (turn : ∀ i c m t z' s, y.cps[i]? = some c → Inv i m → Zle z z' → In h₀ env.locals (upd m x (.str ⟨#[c]⟩ t)) N z' s → wpAny (model prog w) A (execs body env) (fun f s' => match f with
      | .ret v => Q (.ret v) s'
      | .brk => Q .next s'
      | _ => ∃ m', Inv (i + 1) m' ∧ In h₀ env.locals m' N z' s') (fun _ _ => False) s)
    (done : ∀ m s, Inv y.cps.size m → In h₀ env.locals m N z s → Q .next s)
    (hx : env.kindOf x = some .local := by with_unfolding_all rfl) (hk : env.scope.kind = .function := by with_unfolding_all rfl) (hs : ∀ v, foldedSetIterable iter env v = pure v := by intro _; with_unfolding_all rfl) :
    wpAny (model prog w) A (exec (.For (.Name x px) iter body [] pos) env) Q E s := by
  refine wpAny_For (hit _ fun s' I' => wpAny_pyIter_str fun o St W hst => ?_) hs
  have hfr := I'.fresh
  have hL : s'.heap.objs.size ≠ env.locals := fun e => by
    have := I'.fr.ns.lt; rw [← e] at this; exact absurd this (Nat.lt_irrefl _)
  have h2 : h₀.get? s'.heap.objs.size = none := by
    cases e : h₀.get? s'.heap.objs.size with
    | none => rfl
    | some o => exact absurd (Heap.lt_size (I'.fr.keep _ _ e)) (Nat.lt_irrefl _)
  have hz : z.prot s'.heap.objs.size = none := by
    cases e : z.prot s'.heap.objs.size with
    | none => rfl
    | some o => exact absurd (Heap.lt_size (I'.prot _ _ e).1) (Nat.lt_irrefl _)
  have hin : In h₀ env.locals m N z { s' with heap := s'.heap.push o } := I'.keeps ⟨_, _, rfl, fun _ _ e => Heap.get?_push_of_some _ e⟩
  refine loop_walk (fun i m' N' => Inv i m' ∧ N' = N) (W A hh) hin hL h2 hz hfr hst ⟨h0, rfl⟩ (fun b hb hne => absurd (List.mem_singleton.mp hb) hne) ?_ ?_ ?_ hx hk
  · rintro i v m' N' z' s₂ hi ⟨c, t', hc, rfl⟩ ⟨hv, rfl⟩ hzl I₂
    refine wpAny_mono (turn i c m' t' z' s₂ hc hv hzl I₂) (fun f s₃ q => ?_) fun _ _ q => q
    cases f with
    | ret v => exact q
    | brk => exact q
    | next => obtain ⟨m'', h3, h4⟩ := q; exact ⟨m'', _, ⟨h3, rfl⟩, h4⟩
    | cont => obtain ⟨m'', h3, h4⟩ := q; exact ⟨m'', _, ⟨h3, rfl⟩, h4⟩
  · rintro i m' N' s₂ ⟨_, rfl⟩ _; exact hfr
  · rintro m' N' s₂ ⟨h3, rfl⟩ h4; exact done m' s₂ h3 h4
-- part A4
theorem kt_str_int (K : Frag) : kitOne K (.type "str") (.type "int") = some false := by kernel_rfl
theorem kt_str_list (K : Frag) : kitOne K (.type "str") (.type "list") = some false := by kernel_rfl
theorem kt_str_tuple (K : Frag) : kitOne K (.type "str") (.type "tuple") = some false := by kernel_rfl
theorem kt_str_str (K : Frag) : kitOne K (.type "str") (.type "str") = some true := by kernel_rfl
theorem kt_int_int (K : Frag) : kitOne K (.type "int") (.type "int") = some true := by kernel_rfl
theorem kt_int_list (K : Frag) : kitOne K (.type "int") (.type "list") = some false := by kernel_rfl
theorem kt_int_tuple (K : Frag) : kitOne K (.type "int") (.type "tuple") = some false := by kernel_rfl
theorem kt_int_str (K : Frag) : kitOne K (.type "int") (.type "str") = some false := by kernel_rfl
theorem kt_bool_int (K : Frag) : kitOne K (.type "bool") (.type "int") = some true := by kernel_rfl
theorem kt_bool_list (K : Frag) : kitOne K (.type "bool") (.type "list") = some false := by kernel_rfl
theorem kt_bool_tuple (K : Frag) : kitOne K (.type "bool") (.type "tuple") = some false := by kernel_rfl
theorem kt_bool_str (K : Frag) : kitOne K (.type "bool") (.type "str") = some false := by kernel_rfl
theorem kt_NoneType_int (K : Frag) : kitOne K (.type "NoneType") (.type "int") = some false := by kernel_rfl
theorem kt_NoneType_list (K : Frag) : kitOne K (.type "NoneType") (.type "list") = some false := by kernel_rfl
theorem kt_NoneType_tuple (K : Frag) : kitOne K (.type "NoneType") (.type "tuple") = some false := by kernel_rfl
theorem kt_NoneType_str (K : Frag) : kitOne K (.type "NoneType") (.type "str") = some false := by kernel_rfl
theorem kt_list_int (K : Frag) : kitOne K (.type "list") (.type "int") = some false := by kernel_rfl
theorem kt_list_list (K : Frag) : kitOne K (.type "list") (.type "list") = some true := by kernel_rfl
theorem kt_list_tuple (K : Frag) : kitOne K (.type "list") (.type "tuple") = some false := by kernel_rfl
theorem kt_list_str (K : Frag) : kitOne K (.type "list") (.type "str") = some false := by kernel_rfl
theorem kt_tuple_int (K : Frag) : kitOne K (.type "tuple") (.type "int") = some false := by kernel_rfl
theorem kt_tuple_list (K : Frag) : kitOne K (.type "tuple") (.type "list") = some false := by kernel_rfl
theorem kt_tuple_tuple (K : Frag) : kitOne K (.type "tuple") (.type "tuple") = some true := by kernel_rfl
theorem kt_tuple_str (K : Frag) : kitOne K (.type "tuple") (.type "str") = some false := by kernel_rfl
/-- a step by what is shown of it alone -/
theorem cut {α : Type} {M : Model} {A : Around} {E : Value → Shared → Prop} {s : Shared} {t : Sem α} {Q : α → Shared → Prop} (R : α → Shared → Prop) (h : wpAny M A t R (fun _ _ => False) s) (k : ∀ a s', R a s' → Q a s') : wpAny M A t Q E s :=
  wpAny_mono h k fun _ _ x => x.elim
theorem cutI {α : Type} {M : Model} {A : Around} {E : Value → Shared → Prop} {h₀ : Heap} {L : Addr} {m : PySem.Str → Option Value} {N : Led} {z : Zx} {s : Shared} {t : Sem α} {Q : α → Shared → Prop} (I : In h₀ L m N z s) (P : α → Prop)
    (h : wpAny M A t (fun a s' => P a ∧ In h₀ L m N z s') (fun _ _ => False) s) (k : ∀ a s', P a → In h₀ L m N z s' → Q a s') : wpAny M A t Q E s :=
  wpAny_mono h (fun a s' x => k a s' x.1 x.2) fun _ _ x => x.elim
theorem in_str1 {prog : Program} {w : World} {A : Around} {E : Value → Shared → Prop} {s : Shared} {x : PySem.Str} {c : Nat} {t u : Tok} {Q : Value → Shared → Prop} (h : Q (.bool (decide (c ∈ x.cps.toList))) s) :
    wpAny (model prog w) A (compareOp .In (.str ⟨#[c]⟩ u) (.str x t)) Q E s := P.in_str (by rw [StrLaws.found_one]; exact h)
theorem notIn_str1 {prog : Program} {w : World} {A : Around} {E : Value → Shared → Prop} {s : Shared} {x : PySem.Str} {c : Nat} {t u : Tok} {Q : Value → Shared → Prop} (h : Q (.bool (!decide (c ∈ x.cps.toList))) s) :
    wpAny (model prog w) A (compareOp .NotIn (.str ⟨#[c]⟩ u) (.str x t)) Q E s := P.notIn_str (by rw [StrLaws.found_one]; exact h)
section
variable {prog : Program} {w : World} {A : Around} {E : Value → Shared → Prop} {h₀ : Heap} {m : PySem.Str → Option Value} {N : Led} {z : Zx} {s : Shared} {L : Addr} {K : Frag} {mg mb : PySem.Str → Option Value}
theorem r_isi {x t c : Value} {H : Heap → Prop} {b : Bool} {Q : Value → Shared → Prop} (G : Glo K mg mb h₀) (I : In h₀ L m N z s) (Z : KitX K x t H) (p : H s.heap) (e : kitOne K t c = some b) (hx : x ≠ .builtin "__main__.__loader__#opaque")
    (h : ∀ s', In h₀ L m N z s' → Q (.bool b) s') : wpAny (model prog w) A (call (.builtin "isinstance") [x, c]) Q E s :=
  kia_one Z (G.X.keeps I.fr.keep) p e hx fun tk => h _ (I.toks tk)
theorem r_ord {c : Nat} {t : Tok} {Q : Value → Shared → Prop} (I : In h₀ L m N z s) (h : ∀ t s', In h₀ L m N z s' → Q (.int (c : Int) t) s') : wpAny (model prog w) A (call (.builtin "ord") [.str ⟨#[c]⟩ t]) Q E s :=
  P.ord_of_char (h _ _ (I.toks _))
theorem r_findS {x y : PySem.Str} {t u : Tok} {Q : Value → Shared → Prop} (I : In h₀ L m N z s) (h : ∀ t s', In h₀ L m N z s' → Q (.int (Txt.find x y) t) s') : wpAny (model prog w) A (call (.builtin "str.find") [.str x t, .str y u]) Q E s :=
  SC.find (h _ _ (I.toks _))
theorem r_cell {env : Env} {x : PySem.Str} {pos : Pos} {v : Value} {c : Addr} {o : Obj} {Q : Value → Shared → Prop} (I : In h₀ env.locals m N z s) (hc : env.cells.lookup x = some c) (hN : N c = some o) (hd : o.data = .cell (some v)) (h : Q v s)
    (hk : env.scope.kind = .function := by with_unfolding_all rfl) (hl : env.kindOf x = some .cell := by with_unfolding_all rfl) (hd : (x == ("__debug__" : PySem.Str)) = false := by decide) :
    wpAny (model prog w) A (eval (.Name x pos) env) Q E s := wpAny_Name (wpAny_loadName_cell hk hl hc ⟨o, I.get hN, by assumption⟩ h) hd
end
/-- a call of a def with cells of its own that changes nothing older -/
theorem call_fnC {prog : Program} {w : World} {A : Around} {E : Value → Shared → Prop} {s : Shared} {K : Frag} {mg mb : PySem.Str → Option Value}
    {f : Addr} {vals : List Value} {name qual : PySem.Str} {params : Arguments} {body : List Stmt} {scope : Scope} {dV kV doc pm cdv ct oc : Value} {an od : Option Addr} {osl : Array (Option Value)}
    (binds : List (PySem.Str × Value)) (P : Value → Shared → Prop) (G : Glo K mg mb s.heap) (hroom : A.depth < recursionLimit)
    (ho : K.lookup f = some ⟨oc, od, .func (fnX name qual params body scope [] dV kV doc pm an cdv ct), osl⟩) (hcd : codeIn K cdv qual = true)
    (hbind : bindArgs (fnX name qual params body scope [] dV kV doc pm an cdv ct) ⟨vals, []⟩ = pure binds)
    (hkind : (binds.all fun y => scope.names.lookup y.1 == some .local || scope.names.lookup y.1 == some .cell) = true)
    (hco : scope.isCoroutine = false) (hgen : scope.isGenerator = false) (hk : scope.kind = .function)
    (h : ∀ s₁ N, In s.heap s.heap.objs.size (bindL (envX qual scope s.heap.objs.size f cdv (cellsFrom (s.heap.objs.size + 1) scope.names [])).kindOf binds fun _ => none) N (Zx.of s) s₁ →
      (∀ n c, (cellsFrom (s.heap.objs.size + 1) scope.names []).lookup n = some c → ∃ o, N c = some o ∧ o.data = .cell (bindC (envX qual scope s.heap.objs.size f cdv (cellsFrom (s.heap.objs.size + 1) scope.names [])).kindOf binds (fun _ => none) n)) →
      wpAny (model prog w) (A.deeper (envX qual scope s.heap.objs.size f cdv (cellsFrom (s.heap.objs.size + 1) scope.names []))) (execs body (envX qual scope s.heap.objs.size f cdv (cellsFrom (s.heap.objs.size + 1) scope.names [])))
        (fun fl s' => P (match fl with | .ret v => v | _ => .none) s' ∧ ∃ L m N, In s.heap L m N (Zx.of s) s') (fun _ _ => False) s₁) :
    wpAny (model prog w) A (call (.ref f) vals) (fun v s' => P v s' ∧ Keeps s s') E s := by
  refine wpAny_call (codeAny_call_cells (binds := binds) hroom (G.X _ _ ho) rfl G.nolimit (codeRec_of G.X hcd) rfl hbind rfl (kindsX hkind _) (fun s₁ x => ?_) hco hgen hk)
  have x0 := x.toInCall
  obtain ⟨h', tk, rfl, hkeep⟩ := x0.done
  have hlt : ∀ c n, (n, c) ∈ (cellsFrom (s.heap.objs.size + 1) scope.names []) → s.heap.objs.size < c := fun c n hm => x.above n c hm
  refine wpAny_mono (h { s with heap := h', toks := tk } (fun a => if (cellsFrom (s.heap.objs.size + 1) scope.names []).any (fun p => p.2 == a) then h'.get? a else none)
    ⟨⟨x0.ns, hkeep, Nat.le_refl _⟩, fun a o e => ?_, fun a o e => (by cases e), rfl, rfl, rfl⟩ (fun n c e => ?_)) (fun fl s' x => ?_) fun _ _ x => x.elim
  · split at e
    · rename_i q
      obtain ⟨⟨n, c⟩, hm, hq⟩ := List.any_eq_true.mp q
      have hq : c = a := by simpa using hq
      subst hq
      have := hlt c n hm
      refine ⟨e, Nat.ne_of_gt this, ?_⟩
      cases q' : s.heap.get? c with
      | none => rfl
      | some o' => exact absurd (Heap.lt_size q') (Nat.not_lt.mpr (Nat.le_of_lt this))
    · cases e
  · obtain ⟨o, ho1, ho2⟩ := x.cell n c e
    refine ⟨o, ?_, ho2⟩
    rw [if_pos (List.any_eq_true.mpr ⟨(n, c), mem_of_lookup e, by simp⟩)]
    exact ho1
  · obtain ⟨hP, L, m', N', I⟩ := x
    exact ⟨hP, I.keepsOf (z := Zx.of s)⟩
theorem len1 (c : Nat) : (⟨#[c]⟩ : PySem.Str).length = 1 := rfl
-- MACROS
local macro_rules | `(tactic| walk_at "sz") => `(tactic| first | decide | with_unfolding_all ((simp only [len1, PySem.Str.length_append]); (show _ ≤ 16777216); omega) | with_unfolding_all ((show _ ≤ 16777216); omega))
local macro_rules | `(tactic| walk_at "kt") => `(tactic| first | exact kt_str_int _ | exact kt_str_list _ | exact kt_str_tuple _ | exact kt_str_str _ | exact kt_int_int _ | exact kt_int_list _ | exact kt_int_tuple _ | exact kt_int_str _ | exact kt_bool_int _ | exact kt_bool_list _ | exact kt_bool_tuple _ | exact kt_bool_str _ | exact kt_NoneType_int _ | exact kt_NoneType_list _ | exact kt_NoneType_tuple _ | exact kt_NoneType_str _ | exact kt_list_int _ | exact kt_list_list _ | exact kt_list_tuple _ | exact kt_list_str _ | exact kt_tuple_int _ | exact kt_tuple_list _ | exact kt_tuple_tuple _ | exact kt_tuple_str _)
local macro_rules | `(tactic| walk_at "look") => `(tactic| first
  | with_reducible assumption
  | with_reducible exact upd_same
  | (with_reducible exact upd_ne (by with_unfolding_all decide +kernel) (by walk_at "look"))
  | with_unfolding_all rfl)
local macro_rules | `(tactic| walk_at "boot") => `(tactic| first | exact boot_abs | exact boot_len | exact boot_isinstance | exact boot_str | exact boot_int | exact boot_repr | exact boot_ord | exact boot_list | exact boot_tuple)
local macro_rules | `(tactic| walk_at "gs") => `(tactic| repeat walk_at "g1")
local macro_rules | `(tactic| walk_at "g1") => `(tactic| first
  | ((with_reducible show wpAny _ _ (execs _ _) _ _ _); first
    | ((with_reducible refine x_assign ?_))
    | ((with_reducible refine x_aug ?_))
    | ((with_reducible refine x_if ?_))
    | ((with_reducible refine x_ret ?_))
    | ((with_reducible refine x_nil ?_)))
  | ((with_reducible show wpAny _ _ (eval _ _) _ _ _); first
    | ((with_reducible refine r_none ?_))
    | ((with_reducible refine r_bool ?_))
    | ((with_reducible refine r_int (by assumption) ?_); intro _ _ _)
    | ((with_reducible refine r_strT (by assumption) (by assumption) ?_); intro _ _ _ _)
    | ((with_reducible refine r_str (by assumption) ?_); intro _ _ _)
    | ((with_reducible refine r_name (by assumption) (by walk_at "look") ?_))
    | ((with_reducible refine r_global (by assumption) (by assumption) (by k_is) ?_))
    | ((with_reducible refine r_builtin (by assumption) (by assumption) (by k_is) (by walk_at "boot") ?_))
    | ((with_reducible refine wpAny_BinOp ?_))
    | ((with_reducible refine Subscript_ ?_))
    | ((with_reducible refine wpAny_Compare1 ?_ (by with_unfolding_all rfl)))
    | ((with_reducible refine Call_ ?_ (by with_unfolding_all rfl)))
    | ((with_reducible refine MethodCall_ ?_ (by with_unfolding_all rfl)))
    | ((with_reducible refine wpAny_UnaryOp ?_))
    | ((with_reducible refine List_ ?_))
    | ((with_reducible refine Tuple_ ?_)))
  | ((with_reducible refine then_next ?_))
  | ((with_reducible refine then_ret ?_))
  | ((with_reducible refine r_load (by assumption) (by walk_at "look") ?_))
  | ((with_reducible refine r_storeT (by assumption) ?_); intro _ _ _)
  | ((with_reducible refine wpAny_truthy_bool ?_))
  | ((with_reducible refine PyProof.Rows.callWith_builtin1 (wpAny_items_cons ?_ (by with_unfolding_all rfl)) (by with_unfolding_all rfl) (by with_unfolding_all rfl)))
  | ((with_reducible refine wpAny_items_cons ?_ (by with_unfolding_all rfl)))
  | ((with_reducible refine wpAny_items_nil ?_))
  | ((with_reducible refine r_gt ?_))
  | ((with_reducible refine lt_int ?_))
  | ((with_reducible refine le_int ?_))
  | ((with_reducible refine ge_int ?_))
  | ((with_reducible refine eq_int ?_))
  | ((with_reducible refine if_t ?_))
  | ((with_reducible refine if_f ?_))
  | ((with_reducible refine r_addI (by assumption) ?_); intro _ _ _)
  | ((with_reducible refine r_subT (by assumption) (by assumption) ?_); intro _ _ _ _)
  | ((with_reducible refine r_subI (by assumption) ?_); intro _ _ _)
  | ((with_reducible refine r_mulT (by assumption) (by decide +kernel) ?_); intro _ _ _ _)
  | ((with_reducible refine r_modT (by assumption) (by first | decide | assumption) ?_); intro _ _ _ _)
  | ((with_reducible refine r_div (by assumption) (by first | decide | assumption) ?_ (.inl (PyProof.noPylong_small (by decide)))); intro _ _ _)
  | ((with_reducible refine r_pow (by assumption) (by decide) (by decide) (by decide) ?_); intro _ _ _)
  | ((with_reducible refine r_addS (by assumption) ?_ (by walk_at "sz")); intro _ _ _)
  | ((with_reducible refine r_iaddS (by assumption) ?_ (by walk_at "sz")); intro _ _ _)
  | ((with_reducible refine r_abs (by assumption) ?_); intro _ _ _)
  | ((with_reducible refine r_cwf (by assumption) (by k_is) (wpAny_items_cons ?_ (by with_unfolding_all rfl)) (by with_unfolding_all rfl)))
  | ((with_reducible refine kept_in (by assumption) ?_))
  | ((with_reducible refine r_newList (by assumption) ?_ (by with_unfolding_all exact of_decide_eq_true rfl)); intro _ _ _ _ _)
  | ((with_reducible refine r_newTuple (by assumption) ?_ (by with_unfolding_all exact of_decide_eq_true rfl)); intro _ _ _ _ _)
  | ((with_reducible refine wpAny_isTrue_Compare1 ?_ (by with_unfolding_all rfl)))
  | ((with_reducible refine wpAny_allTrue_Or_cons ?_))
  | ((with_reducible refine wpAny_allTrue_Or_nil ?_))
  | ((with_reducible refine wpAny_allTrue_And_cons ?_))
  | ((with_reducible refine wpAny_allTrue_And_nil ?_))
  | ((with_reducible refine wpAny_isTrue_Not ?_))
  | ((with_reducible refine isTrue_chain ?_ (by with_unfolding_all rfl)))
  | ((with_reducible refine test_link ?_))
  | ((with_reducible refine test_last ?_))
  | ((with_reducible refine not_of ?_))
  | ((with_reducible refine wpAny_is_other (by with_unfolding_all rfl) ?hne ?_); (case hne => (intro h; cases h)))
  | ((with_reducible refine wpAny_is_self (by with_unfolding_all rfl) ?_))
  | ((with_reducible refine is_bool ?_))
  | ((with_reducible refine in_str1 ?_))
  | ((with_reducible refine notIn_str1 ?_))
  | ((with_reducible refine PyProof.Rows.eq_str ?_))
  | ((with_reducible show wpAny _ _ (call (Value.builtin "isinstance") [Value.str _ _, _]) _ _ _); (refine r_isi (by assumption) (by assumption) kitx_str trivial (by walk_at "kt") (by intro h; cases h) ?_); intro _ _)
  | ((with_reducible show wpAny _ _ (call (Value.builtin "isinstance") [Value.int _ _, _]) _ _ _); (refine r_isi (by assumption) (by assumption) kitx_int trivial (by walk_at "kt") (by intro h; cases h) ?_); intro _ _)
  | ((with_reducible refine r_ord (by assumption) ?_); intro _ _ _)
  | ((with_reducible refine GM.find ?_))
  | ((with_reducible refine GM.join ?_))
  | ((with_reducible refine r_findS (by assumption) ?_); intro _ _ _)
  | ((with_reducible refine PyProof.Rows.callWith_method1 (wpAny_items_cons ?_ (by with_unfolding_all rfl)) (by with_unfolding_all rfl) (by with_unfolding_all rfl)))
  | ((with_reducible refine isTrue_plain ?_ (by with_unfolding_all rfl)))
  | ((with_reducible show wpAny _ _ (call (Value.builtin _) (_ ++ _)) _ _ _); dsimp only [List.cons_append, List.nil_append])
  | walk_at "ext"
  | fail "no step")
-- END MACROS
-- part A5
noncomputable def hexA (n w : Nat) : List Nat :=
  let ds := (Nat.toDigits 16 n).map (·.toNat)
  List.replicate (w - ds.length) 48 ++ ds
/-- what ascii makes of one sign -/
noncomputable def escA (c : Nat) : List Nat :=
  if c < 128 then [c]
  else if c < 256 then [92, 120] ++ hexA c 2
  else if c < 65536 then [92, 117] ++ hexA c 4
  else [92, 85] ++ hexA c 8
noncomputable def asciiText (x : PySem.Str) : PySem.Str := ⟨x.cps.flatMap fun c => (escA c).toArray⟩
theorem asciiText_toList (x : PySem.Str) : (asciiText x).cps.toList = x.cps.toList.flatMap escA := by
  show (x.cps.flatMap fun c => (escA c).toArray).toList = _
  rw [Array.toList_flatMap]
theorem asciiText_plain {x : PySem.Str} (h : x.cps.all (· < 128) = true) : asciiText x = x := by
  have e : ∀ l : List Nat, (∀ c ∈ l, c < 128) → l.flatMap escA = l := by
    intro l
    induction l with
    | nil => intro _; rfl
    | cons c r ih => intro h; rw [List.flatMap_cons, ih fun c hc => h c (.tail _ hc)]; simp [escA, h c (.head _)]
  have h' : ∀ c ∈ x.cps.toList, c < 128 := by
    intro c hc
    have h3 := Array.all_eq_true.mp h
    obtain ⟨i, hi, rfl⟩ := Array.mem_iff_getElem.mp (Array.mem_toList_iff.mp hc)
    simpa using h3 i hi
  have h2 := asciiText_toList x
  rw [e _ h'] at h2
  cases x with
  | mk a => 
    have : (asciiText ⟨a⟩).cps = a := Array.ext' h2
    cases hq : asciiText ⟨a⟩ with
    | mk b => rw [hq] at this; exact congrArg _ this
theorem entry_ascii : entryFor table "ascii" = some Builtin.«ascii» := entryFor_of_tree (by kernel_rfl)
theorem kind_ascii : builtinKind "ascii" = none := by decide +kernel
theorem plain_ascii : plainId "ascii" = true := by decide +kernel
theorem args_ascii1 (a : Value) : argsOk "ascii" ⟨[a], []⟩ := by unfold argsOk; kernel_rfl

section
variable {prog : Program} {w : World} {A : Around} {E : Value → Shared → Prop} {s : Shared}
theorem call_ascii {v : Value} {x : PySem.Str} {Q : Value → Shared → Prop} (hroom : [v].any Value.onHeap = false ∨ A.in1.units < cLine)
    (hc : ∀ (Q' : Option Value → Shared → Prop), (∀ s' t, Keeps s s' → Q' (some (.str x t)) s') → wpAny (model prog w) A.in1 (callSpecialIfBound? v "__repr__") Q' E s)
    (hx : 10 * x.length ≤ 16777216) (hy : (asciiText x).length ≤ 16777216) (h : ∀ t s', Keeps s s' → Q (.str (asciiText x) t) s') : wpAny (model prog w) A (call (.builtin "ascii") [v]) Q E s := by
  refine Calls.call_function_entry kind_ascii plain_ascii entry_ascii (args_ascii1 _) ?_
  unfold Builtin.«ascii»
  refine wpAny_bind (m := oneArg "ascii" _) (wpAny_pure ?_)
  refine wpAny_bind (m := cRoomFor _ _) (wpAny_cRoomFor_or hroom ?_)
  refine wpAny_bind (m := callSpecialIfBound? v (Str.ofString "__repr__")) (hc _ fun s' t k => ?_)
  refine wpAny_bind (m := asStr? (.str x t)) (wpAny_pure ?_)
  dsimp only
  by_cases ha : x.cps.all (· < 128) = true
  · rw [if_pos ha]
    refine wpAny_bind (wpAny_rule ?_)
    refine wpAny_bind (wpAny_pure ?_)
    exact wpAny_pure ⟨_, rfl, by have := h t s' k; rw [asciiText_plain ha] at this; exact this⟩
  · rw [if_neg ha]
    refine wpAny_bind (m := letGo _) (wpAny_letGo ?_)
    have hn : ¬ 10 * x.length > sizeLine := Nat.not_lt.mpr hx
    rw [decide_eq_false hn, Bool.false_and, if_neg Bool.false_ne_true]
    show wpAny _ _ (retStr (asciiText x)) _ _ _
    refine wpAny_bind (m := mkStr (asciiText x)) ?_
    unfold mkStr
    have hy' : ¬ (asciiText x).length > sizeLine := Nat.not_lt.mpr hy
    rw [if_neg hy']
    exact fun _ _ _ => fun _ _ _ => ⟨_, rfl, h _ _ (keeps_trans k (keeps_toks _ _))⟩

theorem special_repr {v : Value} {d : PyData} {as : List Addr} {Q : Option Value → Shared → Prop} (r : Reads s.heap v d as) (hs : d.showable = true) (hsm : d.hasDict = false) (hg : A.guards = some []) (hu : A.units + d.depth < cLine) (hsz : d.shown.length ≤ sizeLine)
    (h : ∀ s' t, Keeps s s' → Q (some (.str d.shown t)) s') : wpAny (model prog w) A (callSpecialIfBound? v "__repr__") Q E s := by
  have tok : ∀ t tk, Q (some (.str d.shown t)) { s with toks := tk } := fun t tk => h _ t (keeps_toks s tk)
  cases v with
  | ref a =>
    obtain ⟨T, idr, S⟩ := showsBy_of_reads (prog := prog) (w := w) r hs (fun e => by rw [hsm] at e; cases e) hsz
    exact wpAny_callSpecialIfBound?_slotG (name := Str.ofString "__repr__") (S.typeIs s fun _ _ e => e) S.slotRepr (S.call A E s _ hg hu (fun _ _ e => e) fun h' u tk hk => h _ u ⟨h', tk, rfl, hk⟩)
  | none =>
    cases r
    exact wpAny_callSpecialIfBound?_slot (name := Str.ofString "__repr__") (typeIs_none s) F.slot_NoneType_repr (call_gives F.slot_NoneType_repr (typeIs_none s) F.entry_NoneType_repr (F.args_NoneType_repr_1 _) gives_none_repr ⟨hsz, tok _ _⟩)
  | bool b =>
    cases r
    exact wpAny_callSpecialIfBound?_slot (name := Str.ofString "__repr__") (PySem.typeIs_bool s b) F.slot_bool_repr (call_gives F.slot_bool_repr (PySem.typeIs_bool s b) F.entry_bool_repr (F.args_bool_repr_1 _) (gives_bool_repr b) ⟨hsz, tok _ _⟩)
  | int i t =>
    cases r
    exact wpAny_callSpecialIfBound?_slot (name := Str.ofString "__repr__") (typeIs_int s i t) F.slot_int_repr (call_gives F.slot_int_repr (typeIs_int s i t) F.entry_int_repr (F.args_int_repr_1 _) (gives_int_repr i t (of_decide_eq_true hs)) ⟨hsz, tok _ _⟩)
  | str x t =>
    cases r
    exact wpAny_callSpecialIfBound?_slot (name := Str.ofString "__repr__") (typeIs_str s x t) F.slot_str_repr (call_gives F.slot_str_repr (typeIs_str s x t) F.entry_str_repr (F.args_str_repr_1 _) (gives_str_repr x t) ⟨hsz, tok _ _⟩)
  | _ => cases r
theorem r_ascii {v : Value} {d : PyData} {as : List Addr} {Q : Value → Shared → Prop} (r : Reads s.heap v d as) (hs : d.showable = true) (hsm : d.hasDict = false) (hg : A.guards = some []) (hu : A.units + 1 + d.depth < cLine) (hsz : 10 * d.shown.length ≤ 16777216) (hy : (asciiText d.shown).length ≤ 16777216)
    (h : ∀ t s', Keeps s s' → Q (.str (asciiText d.shown) t) s') : wpAny (model prog w) A (call (.builtin "ascii") [v]) Q E s :=
  call_ascii (.inr (by show A.units + 1 < cLine; omega)) (fun Q' hq => special_repr r hs hsm hg hu (by show _ ≤ 16777216; omega) hq) hsz hy h
theorem r_repr {v : Value} {d : PyData} {as : List Addr} {Q : Value → Shared → Prop} (r : Reads s.heap v d as) (hs : d.showable = true) (hsm : d.hasDict = false) (hg : A.guards = some []) (hu : A.units + 1 + d.depth < cLine) (hsz : d.shown.length ≤ 16777216)
    (h : ∀ t s', Keeps s s' → Q (.str d.shown t) s') : wpAny (model prog w) A (call (.builtin "repr") [v]) Q E s := by
  have tok : ∀ t tk, Q (.str d.shown t) { s with toks := tk } := fun t tk => h t _ (keeps_toks s tk)
  cases v with
  | ref a => exact repr_of_reads' r hs (fun e => by rw [hsm] at e; cases e) hg (by omega) (fun _ _ e => e) (fun h' u tk hk => h u _ ⟨h', tk, rfl, hk⟩) hsz
  | none => cases r; exact P.repr_of_none (tok _ _)
  | bool b => cases r; exact P.repr_of_bool (tok _ _)
  | int i t => cases r; exact P.repr_of_int (of_decide_eq_true hs) (tok _ _)
  | str x t => cases r; exact P.repr_of_str (tok _ _) hsz
  | _ => cases r
theorem r_strOf {v : Value} {d : PyData} {as : List Addr} {Q : Value → Shared → Prop} (r : Reads s.heap v d as) (hs : d.showable = true) (hsm : d.hasDict = false) (hg : A.guards = some []) (hu : A.units + 3 + d.depth < cLine) (hsz : d.shown.length ≤ 16777216) (hns : ∀ x, d ≠ .str x)
    (h : ∀ t s', Keeps s s' → Q (.str d.shown t) s') : wpAny (model prog w) A (call (.type "str") [v]) Q E s := by
  have tok : ∀ t tk, Q (.str d.shown t) { s with toks := tk } := fun t tk => h t _ (keeps_toks s tk)
  cases v with
  | ref a => exact str_of_reads r hs (fun e => by rw [hsm] at e; cases e) hg (by omega) (fun _ _ e => e) (fun h' u tk hk => h u _ ⟨h', tk, rfl, hk⟩) hsz
  | none => cases r; exact P.str_of_none (tok _ _)
  | bool b => cases r; exact P.str_of_bool (tok _ _)
  | int i t => cases r; exact P.str_of_int (of_decide_eq_true hs) (tok _ _)
  | str x t => cases r; exact absurd rfl (hns _)
  | _ => cases r
end

theorem boot_ascii : bootBuiltins (Str.ofString "ascii") = some (.builtin "ascii") := by kernel_rfl
theorem boot_ValueError : bootBuiltins (Str.ofString "ValueError") = some (.type "ValueError") := by kernel_rfl
-- MACROS
local macro_rules | `(tactic| walk_at "boot") => `(tactic| first | exact boot_ascii | exact boot_ValueError)
local macro_rules | `(tactic| walk_at "ext") => `(tactic| ((with_reducible show wpAny _ _ (callWith _ (Value.type _) [] _ _) _ _ _); (with_reducible refine PyProof.Rows.callWith_type1 (wpAny_items_cons ?_ (by with_unfolding_all rfl)) (by with_unfolding_all rfl) (by with_unfolding_all rfl))))
-- END MACROS
-- part A6
/-- the frames that stand below a call -/
structure Stk (A : Around) (outer : List Env) (h : Heap) : Prop where
  stack : A.frames = some outer
  frames : h.FunFrames {} outer
theorem Stk.keeps {A : Around} {outer : List Env} {h h' : Heap} (K : Stk A outer h) (k : ∀ b o, h.get? b = some o → h'.get? b = some o) : Stk A outer h' :=
  ⟨K.stack, K.frames.of_keeps fun b o e _ => ⟨o, k b o e, rfl⟩⟩
theorem get_empty (a : Addr) : ({} : Heap).get? a = none := by simp [Heap.get?]
theorem Stk.push {A : Around} {outer : List Env} {h₀ : Heap} {env : Env} {m : PySem.Str → Option Value} {N : Led} {z : Zx} {s : Shared} (K : Stk A outer h₀) (I : In h₀ env.locals m N z s)
    (hf : env.frame = some env.locals := by with_unfolding_all rfl) (hk : env.scope.kind = .function := by with_unfolding_all rfl) : Stk (A.deeper env) (env :: outer) s.heap :=
  ⟨Around.frames_deeper K.stack, .cons (by rw [hk]; decide) hf I.fr.ns (get_empty _) (K.frames.of_keeps fun b o e _ => ⟨o, I.fr.keep b o e, rfl⟩)⟩

/-- an exception on its way out of a call that began at s; H: what of s's heap stays as it was -/
structure Fly (H : Heap) (outer : List Env) (e : Addr) (cls : Value) (vs : List Value) (z : Shared) (s' : Shared) : Prop where
  ex : ∃ B t, (∀ b o, H.get? b = some o → b ∉ outer.filterMap (·.frame) → B.get? b = some o) ∧ Heap.FlyingW B outer e cls (.ref t) s'.heap ∧ s'.heap.TupAt t vs ∧ B.get? t = none
  slots : H.UpToSlots s'.heap
  gens : s'.gens = z.gens
  drawn : s'.drawn = z.drawn
  os : s'.os = z.os
theorem funFrames_sub {h base base' : Heap} : ∀ {l : List Env}, h.FunFrames base l → (∀ b ∈ l.filterMap (·.frame), base'.get? b = none) → h.FunFrames base' l
  | [], _, _ => trivial
  | env :: _, ⟨hk, ⟨L, o, hf, _, ho, hd⟩, hr⟩, hin => ⟨hk, ⟨L, o, hf, hin L (by rw [List.filterMap_cons, hf]; exact .head _), ho, hd⟩, funFrames_sub hr fun b hb => hin b (by rw [List.filterMap_cons, hf]; exact .tail _ hb)⟩
section
variable {M : Model} {A : Around} {E : Value → Shared → Prop} {H : Heap} {env : Env} {outer : List Env} {m : PySem.Str → Option Value} {N : Led} {z : Zx} {s₁ s₂ : Shared} {e : Addr} {cls : Value} {vs : List Value} {Q : Unit → Shared → Prop}
theorem leave_made (K : Stk A outer H) (I : In H env.locals m N z s₁) (hx : Heap.MadeExcOf s₁.heap s₂.heap e cls vs) (h : ∀ s', Fly H outer e cls vs z.sh s' → Q () s')
    (hg : s₂.gens = s₁.gens := by rfl) (hd : s₂.drawn = s₁.drawn := by rfl) (ho : s₂.os = s₁.os := by rfl)
    (hf : env.frame = some env.locals := by with_unfolding_all rfl) (hk : env.scope.kind = .function := by with_unfolding_all rfl) :
    wpAny M (A.deeper env) (leaving env (.ref e)) Q E s₂ := by
  have K' := K.push I hf hk
  refine wpAny_leaves_madeW (base := hideAll s₁.heap ((env :: outer).filterMap (·.frame))) K'.stack hf (fun b o q => of_hideAll _ q) (funFrames_sub K'.frames fun b hb => hideAll_none _ hb) hx fun h' t x1 x2 x3 x4 =>
    h _ ⟨⟨_, t, fun b o q hb => hideAll_get _ (I.fr.keep b o q) fun hm => ?_, x1, x2, x3⟩, ((Heap.UpToSlots.of_keeps I.fr.keep).trans (Heap.UpToSlots.of_keeps hx.keeps)).trans x4, hg.trans I.gens, hd.trans I.drawn, ho.trans I.os⟩
  rw [List.filterMap_cons, hf] at hm
  rcases List.mem_cons.mp hm with rfl | hm
  · exact absurd (Nat.lt_of_lt_of_le (Heap.lt_size q) I.fr.above) (Nat.lt_irrefl _)
  · exact hb hm
theorem leave_on (K : Stk A outer H) (I : In H env.locals m N z s₁) (Fl : Fly s₁.heap (env :: outer) e cls vs s₁ s₂) (h : ∀ s', Fly H outer e cls vs z.sh s' → Q () s')
    (hf : env.frame = some env.locals := by with_unfolding_all rfl) :
    wpAny M (A.deeper env) (leaving env (.ref e)) Q E s₂ := by
  obtain ⟨⟨B, t, hB, hfl, htup, ht⟩, hsl, hg, hd, ho⟩ := Fl
  refine wpAny_leaves_onW (Around.frames_deeper K.stack) hf hfl fun h' x1 x2 =>
    h _ ⟨⟨B, t, fun b o q hb => hB b o (I.fr.keep b o q) fun hm => ?_, x1, htup.of_slots x2, ht⟩, ((Heap.UpToSlots.of_keeps I.fr.keep).trans hsl).trans x2, hg.trans I.gens, hd.trans I.drawn, ho.trans I.os⟩
  rw [List.filterMap_cons, hf] at hm
  rcases List.mem_cons.mp hm with rfl | hm
  · exact absurd (Nat.lt_of_lt_of_le (Heap.lt_size q) I.fr.above) (Nat.lt_irrefl _)
  · exact hb hm
end

/-- a call of a def of the text that changes nothing older and may raise -/
theorem call_fnE {prog : Program} {w : World} {A : Around} {s : Shared} {K : Frag} {mg mb : PySem.Str → Option Value}
    {f : Addr} {pos : List Value} {kw : List (PySem.Str × Value)} {name qual : PySem.Str} {params : Arguments} {body : List Stmt} {scope : Scope} {cl : List (PySem.Str × Addr)} {dV kV doc pm cdv ct oc : Value} {an od : Option Addr} {osl : Array (Option Value)}
    (binds : List (PySem.Str × Value)) (P : Value → Shared → Prop) (X : Value → Shared → Prop) (G : Glo K mg mb s.heap) (hroom : A.depth < recursionLimit)
    (ho : K.lookup f = some ⟨oc, od, .func (fnX name qual params body scope cl dV kV doc pm an cdv ct), osl⟩) (hcd : codeIn K cdv qual = true)
    (hbind : BindsTo s (fnX name qual params body scope cl dV kV doc pm an cdv ct) ⟨pos, kw⟩ binds)
    (hcell : ∀ x ∈ scope.names, x.2 ≠ .cell) (hloc : ∀ x ∈ binds, scope.names.lookup x.1 = some .local)
    (hco : scope.isCoroutine = false) (hgen : scope.isGenerator = false) (hk : scope.kind = .function)
    (h : ∀ s₁, In s.heap s.heap.objs.size (fun x => binds.reverse.lookup x) Led.nil (Zx.of s) s₁ →
      wpAny (model prog w) (A.deeper (envX qual scope s.heap.objs.size f cdv cl)) (execs body (envX qual scope s.heap.objs.size f cdv cl))
        (fun fl s' => P (match fl with | .ret v => v | _ => .none) s' ∧ ∃ L m N, In s.heap L m N (Zx.of s) s')
        (fun e s' => wpAny (model prog w) (A.deeper (envX qual scope s.heap.objs.size f cdv cl)) (leaving (envX qual scope s.heap.objs.size f cdv cl) e) (fun _ s'' => X e s'') (fun _ _ => False) s') s₁) :
    wpAny (model prog w) A (call (.ref f) pos kw) (fun v s' => P v s' ∧ Keeps s s') X s := by
  refine wpAny_call (codeAny_call_def (binds := binds) hroom (G.X _ _ ho) rfl G.nolimit (codeRec_of G.X hcd) rfl hbind hcell hloc (fun h₁ hns hk₁ => ?_) hco hgen hk)
  refine wpAny_mono (h { s with heap := h₁, toks := s.toks + binds.length } ⟨⟨hns, hk₁, Nat.le_refl _⟩, fun a o e => (by cases e), fun a o e => (by cases e), rfl, rfl, rfl⟩) (fun fl s' x => ?_) fun e s' x => wpAny_mono x (fun _ _ y => y) fun _ _ y => y.elim
  obtain ⟨hP, L, m', N', I⟩ := x
  exact ⟨hP, I.keepsOf (z := Zx.of s)⟩

/-- the map of names behind «except … as n» -/
noncomputable def updo (m : PySem.Str → Option Value) (x : PySem.Str) (v : Option Value) : PySem.Str → Option Value := fun y => if y = x then v else m y
theorem updo_ne {m : PySem.Str → Option Value} {x y : PySem.Str} {v : Value} {v' : Option Value} (hne : y ≠ x) (h : m y = some v) : updo m x v' y = some v := by simp [updo, hne, h]
theorem updo_eq {m : PySem.Str → Option Value} {x y : PySem.Str} {v' : Option Value} (hne : y ≠ x) : updo m x v' y = m y := by simp [updo, hne]

theorem In.fly {h₀ : Heap} {env : Env} {m : PySem.Str → Option Value} {N : Led} {z : Zx} {s s' : Shared} {B : Heap} (I : In h₀ env.locals m N z s)
    (hB : ∀ b o, s.heap.get? b = some o → b ≠ env.locals → B.get? b = some o) (hs : B.StaysIn s'.heap) (sl : s.heap.UpToSlots s'.heap) (hg : s'.gens = s.gens) (hd : s'.drawn = s.drawn) (ho : s'.os = s.os) :
    In h₀ env.locals m N z s' :=
  have k : ∀ b o, s.heap.get? b = some o → b ≠ env.locals → s'.heap.get? b = some o := fun b o e hb => hs b o (hB b o e hb)
  have hL : ∀ b o, h₀.get? b = some o → b ≠ env.locals := fun b o e q => by rw [q] at e; exact absurd (Nat.lt_of_lt_of_le (Heap.lt_size e) I.fr.above) (Nat.lt_irrefl _)
  ⟨⟨sl.ns I.fr.ns, fun b o e => k b o (I.fr.keep b o e) (hL b o e), I.fr.above⟩, fun a o e => ⟨k a o (I.led a o e).1 (I.led a o e).2.1, (I.led a o e).2⟩,
    fun a o e => ⟨k a o (I.prot a o e).1 (I.prot a o e).2.1, (I.prot a o e).2⟩, hg.trans I.gens, hd.trans I.drawn, ho.trans I.os⟩
/-- an object that is there and new comes into the ledger -/
theorem In.addLed {h₀ : Heap} {L : Addr} {m : PySem.Str → Option Value} {N : Led} {z : Zx} {s : Shared} (I : In h₀ L m N z s) {a : Addr} {o : Obj} (h : s.heap.get? a = some o) (h1 : a ≠ L) (h2 : h₀.get? a = none) (h3 : z.prot a = none) : In h₀ L m (N.put a o) z s :=
  ⟨I.fr, fun b x e => by
    by_cases hb : b = a
    · subst hb; rw [Led.put_same] at e; cases e; exact ⟨h, h1, h2⟩
    · rw [Led.put_ne hb] at e; exact I.led b x e, fun b x e => ⟨(I.prot b x e).1, (I.prot b x e).2.1, (I.prot b x e).2.2.1, Led.put_none (I.prot b x e).2.2.2 fun y => by rw [y, h3] at e; cases e⟩, I.gens, I.drawn, I.os⟩

structure Thrown (N : Led) (e t : Addr) (cls : Value) (vs : List Value) : Prop where
  e : ∃ oe ws, N e = some oe ∧ oe.cls = cls ∧ oe.data = .fields ws ∧ ws[0]? = some (.ref t)
  t : ∃ ot nt, N t = some ot ∧ ot.cls = .type "tuple" ∧ ot.data = .seq vs.toArray nt

section
variable {prog : Program} {w : World} {A : Around} {E : Value → Shared → Prop} {h₀ : Heap} {m : PySem.Str → Option Value} {N : Led} {z : Zx} {s s' : Shared} {env : Env} {K : Frag} {mg mb : PySem.Str → Option Value}
  {e : Addr} {vs : List Value} {n x : PySem.Str} {b₀ : Stmt} {suite : List Stmt} {pos np : Pos} {rest : List ExceptHandler} {Q : Flow → Shared → Prop} {X T' : String}
theorem caught (G : Glo K mg mb h₀) (hA : A.frames = some [env]) (I : In h₀ env.locals m N z s) (Fl : Fly s.heap [env] e (.type X) vs s s')
    (hgl : nsIn K mainGlobals x = some none) (hv : bootBuiltins x = some (.type T'))
    (hexc : isSubtype (.type T') (.type "BaseException") = pure true) (hnt : isSubtype (.type ((Manifest.find? T').elim "type" fun y => y.metatype)) (.type "tuple") = pure false) (hsub : isSubtype (.type X) (.type T') = pure true)
    (k : ∀ s'' N' t, Led.Le N N' → Thrown N' e t (.type X) vs → In h₀ env.locals (upd m n (.ref e)) N' z s'' →
      wpAny (model prog w) (A.mark (some (.ref e))) (execs (b₀ :: suite) env)
        (fun f s₄ => ∃ m' N' z', In h₀ env.locals m' N' z' s₄ ∧ ∀ s₅ v, In h₀ env.locals (updo m' n v) N' z' s₅ → Q f s₅) (fun _ _ => False) s'')
    (hn : x ≠ "__name__" := by decide +kernel) (hf : env.frame = some env.locals := by with_unfolding_all rfl)
    (hg : env.globals = mainGlobals := by with_unfolding_all rfl) (hb : env.builtins = builtinsNs := by with_unfolding_all rfl)
    (hk : env.scope.kind = .function := by with_unfolding_all rfl) (hlo : env.kindOf n = some .local := by with_unfolding_all rfl) (hx : env.kindOf x = some .globalImplicit := by with_unfolding_all rfl) (hd : (x == ("__debug__" : PySem.Str)) = false := by decide) :
    wpAny (model prog w) A (noteFrame (.ref e) env)
      (fun _ s₂ => wpAny (model prog w) A (setFlight (.ref e) none) (fun _ s₃ =>
        wpAny (model prog w) A (handleBy (.ref e) env (.ExceptHandler (some (.Name x np)) (some n) (b₀ :: suite) pos :: rest)) Q E s₃) E s₂) E s' := by
  obtain ⟨⟨B, t, hB, hfl, htup, hnew⟩, hsl, g1, g2, g3⟩ := Fl
  have hB' : ∀ b o, s.heap.get? b = some o → b ≠ env.locals → B.get? b = some o := fun b o q hne => hB b o q fun hm => by
    rw [List.filterMap_cons, hf] at hm
    rcases List.mem_cons.mp hm with rfl | hm
    · exact hne rfl
    · cases hm
  have hL : B.get? env.locals = none := by
    obtain ⟨_, ⟨L', _, hf', hn', _⟩, _⟩ := hfl.2.2.1
    rw [hf] at hf'; cases hf'; exact hn'
  refine wpAny_looks_onW hA hf hfl fun h₄ hheld₄ hsm₄ => ?_
  refine wpAny_landsW hheld₄ fun h₅ hheld hsm₅' => ?_
  have hsm₅ := hsl.trans (hsm₄.trans hsm₅')
  have I₅ : In h₀ env.locals m N z { s' with heap := h₅ } := I.fly hB' hheld.1 hsm₅ g1 g2 g3
  obtain ⟨ob, hob, hobc⟩ := hheld.there
  refine wpAny_handleBy_builtin_as (X := X) (T := T') (b := true) hexc hnt hsub (r_builtin G I₅ hgl hv ⟨rfl, ⟨ob, hob, hobc⟩, ?_⟩ hn hg hb hk hx hd)
  refine lands_againW hheld fun h₆ hfl₆ hsm₆ => ?_
  have I₆ : In h₀ env.locals m N z { s' with heap := h₆ } := I.fly hB' hfl₆.1 (hsm₅.trans hsm₆) g1 g2 g3
  obtain ⟨oe, ws, hoe, hoec, hoed, hoe0⟩ := hfl₆.first
  obtain ⟨ot, nt, hot, hotc, hotd⟩ := (htup.of_slots (hsm₄.trans hsm₅')).of_slots hsm₆
  have het : t ≠ e := fun q => by rw [q, hoe] at hot; cases hot; rw [hoed] at hotd; cases hotd
  have fresh : ∀ a, B.get? a = none → a ≠ env.locals → h₀.get? a = none ∧ z.prot a = none ∧ N a = none := fun a ha hne => by
    refine ⟨?_, ?_, ?_⟩
    · cases q : h₀.get? a with
      | none => rfl
      | some o => rw [hB' a o (I.fr.keep a o q) hne] at ha; cases ha
    · cases q : z.prot a with
      | none => rfl
      | some o => rw [hB' a o (I.prot a o q).1 hne] at ha; cases ha
    · cases q : N a with
      | none => rfl
      | some o => rw [hB' a o (I.led a o q).1 hne] at ha; cases ha
  obtain ⟨oL, es, ep, hoL, hLd, _⟩ := I₆.fr.ns
  have neL : ∀ a o, h₆.get? a = some o → o.data ≠ oL.data → a ≠ env.locals := fun a o q hdn y => by
    subst y
    have : h₆.get? env.locals = some oL := hoL
    rw [q] at this; cases this; exact hdn rfl
  have ne1 : e ≠ env.locals := neL e oe hoe (by rw [hoed, hLd]; intro q; cases q)
  have ne2 : t ≠ env.locals := neL t ot hot (by rw [hotd, hLd]; intro q; cases q)
  have Fe := fresh e hfl₆.2.1 ne1
  have Ft := fresh t hnew ne2
  have I₇ := (I₆.addLed hot ne2 Ft.1 Ft.2.1).addLed hoe ne1 Fe.1 Fe.2.1
  have hle : Led.Le N ((N.put t ot).put e oe) := (Led.le_put Ft.2.2).trans (Led.le_put (Led.put_none Fe.2.2 (Ne.symm het)))
  refine r_store I₇ (fun s₈ I₈ => ?_) hk hlo
  refine wpAny_mono (k s₈ _ t hle ⟨⟨oe, ws, Led.put_same, hoec, hoed, hoe0⟩, ⟨ot, nt, by rw [Led.put_ne het]; exact Led.put_same, hotc, hotd⟩⟩ I₈) (fun f s₄ x => ?_) fun _ _ x => x.elim
  obtain ⟨m', N', z', I₉, hq⟩ := x
  exact wpAny_nameGoes_keeps hlo I₉.fr.ns (by rw [hk]; rfl) fun h' v hn hs => hq _ v (I₉.set hn hs)

theorem r_strExc {L : Addr} {cn : String} {t : Addr} {y : PySem.Str} {u : Tok} {Q : Value → Shared → Prop} (FX : ExcStrFacts X cn) (I : In h₀ L m N z s) (T : Thrown N e t (.type X) [.str y u]) (hu : A.units + 2 < cLine) (h : Q (.str y u) s) :
    wpAny (model prog w) A (call (.type "str") [.ref e]) Q E s := by
  obtain ⟨⟨oe, ws, h1, h2, h3, h4⟩, ⟨ot, nt, h5, h6, h7⟩⟩ := T
  exact P.str_of_exc_one FX hu ⟨oe, ws, I.get h1, h2, h3, h4⟩ ⟨ot, nt, I.get h5, h6, h7⟩ h
end
-- part A7
/-- all that lies in the heap h and is neither of h₀ nor the frame L -/
noncomputable def allNews (h₀ : Heap) (L : Addr) (h : Heap) : List (Addr × Obj) := (List.range h.objs.size).filterMap fun a => if a = L ∨ (h₀.get? a).isSome = true then none else (h.get? a).map fun o => (a, o)
theorem mem_allNews {h₀ h : Heap} {L a : Addr} {o : Obj} : (a, o) ∈ allNews h₀ L h ↔ h.get? a = some o ∧ a ≠ L ∧ h₀.get? a = none := by
  unfold allNews
  rw [List.mem_filterMap]
  constructor
  · rintro ⟨b, hb, e⟩
    split at e
    · cases e
    · rename_i hn
      obtain ⟨o', ho', e'⟩ := Option.map_eq_some_iff.mp e
      cases e'
      refine ⟨ho', fun q => hn (.inl q), ?_⟩
      cases q : h₀.get? a with
      | none => rfl
      | some x => exact absurd (.inr (by rw [q]; rfl)) hn
  · rintro ⟨h1, h2, h3⟩
    refine ⟨a, List.mem_range.mpr (Heap.lt_size h1), ?_⟩
    rw [if_neg (fun q => q.elim h2 fun q => by rw [h3] at q; cases q), h1]
    rfl
section
variable {h₀ : Heap} {L : Addr} {m m' : PySem.Str → Option Value} {N : Led} {z : Zx} {s : Shared}
theorem In.news (_I : In h₀ L m N z s) : News h₀ L s.heap (allNews h₀ L s.heap) := fun p hp => mem_allNews.mp hp
theorem In.back (I : In h₀ L m N z s) {h' : Heap} {tk : Nat} {nw : List (Addr × Obj)} (F : Fr h₀ L h' m') (hn : News h₀ L h' nw) (hs : ∀ p ∈ allNews h₀ L s.heap, p ∈ nw) : In h₀ L m' N z { s with heap := h', toks := tk } :=
  ⟨F, fun a o e => ⟨(hn _ (hs _ (mem_allNews.mpr (I.led a o e)))).1, (I.led a o e).2⟩,
    fun a o e => ⟨(hn _ (hs _ (mem_allNews.mpr ⟨(I.prot a o e).1, (I.prot a o e).2.1, (I.prot a o e).2.2.1⟩))).1, (I.prot a o e).2⟩, I.gens, I.drawn, I.os⟩
theorem In.notOld (I : In h₀ L m N z s) {a : Addr} (h : ∀ p ∈ allNews h₀ L s.heap, p.1 < a) : N a = none ∧ z.prot a = none := by
  refine ⟨?_, ?_⟩
  · cases e : N a with
    | none => rfl
    | some o => exact absurd (h _ (mem_allNews.mpr (I.led a o e))) (Nat.lt_irrefl _)
  · cases e : z.prot a with
    | none => rfl
    | some o => exact absurd (h _ (mem_allNews.mpr ⟨(I.prot a o e).1, (I.prot a o e).2.1, (I.prot a o e).2.2.1⟩)) (Nat.lt_irrefl _)
end
section
variable {prog : Program} {w : World} {A : Around} {E : Value → Shared → Prop} {h₀ : Heap} {m : PySem.Str → Option Value} {N : Led} {z : Zx} {s : Shared} {L : Addr} {K : Frag} {mg mb : PySem.Str → Option Value}
/-- an object of a class without __init__ -/
theorem r_make0 {C : Addr} {Q : Value → Shared → Prop} (G : Glo K mg mb h₀) (I : In h₀ L m N z s) (hm : makesIn K C = true) (hi : findIn K (.ref C) "__init__" = some (some (.builtin "object.__init__")))
    (h : ∀ x dx s', N dx = none → N x = none → x ≠ dx → In h₀ L m ((N.put dx (dictOf [] 0)).put x (instObj C dx)) z s' → Q (.ref x) s') : wpAny (model prog w) A (call (.ref C) [] []) Q E s := by
  refine call_cls0 I.fr G.X I.news hm hi fun x dx h' F' N' hlt hx => ?_
  have I' := I.back (tk := s.toks) F' N' fun p hp => .tail _ (.tail _ hp)
  have n1 := I.notOld hlt
  have n2 := I.notOld fun p hp => Nat.lt_trans (hlt p hp) hx
  have g1 := N' (x, instObj C dx) (.head _)
  have g2 := N' (dx, dictOf [] 0) (.tail _ (.head _))
  have J1 := I'.addLed g2.1 g2.2.1 g2.2.2 n1.2
  exact h x dx _ n1.1 n2.1 (Nat.ne_of_gt hx) (J1.addLed g1.1 g1.2.1 g1.2.2 n2.2)
theorem r_method {x C dx : Addr} {es : List DictEntry} {n : Nat} {name : PySem.Str} {pl : Sem Bool} {f : Addr} {Q : Value × List Value → Shared → Prop} (G : Glo K mg mb h₀) (I : In h₀ L m N z s)
    (hx : N x = some (instObj C dx)) (hd : N dx = some (dictOf es n)) (hg : plainGet K C name = true) (hf : findIn K (.ref C) name = some (some (.ref f))) (ht : isFn K (.ref f) = true) (hl : getL name es = some none)
    (h : Q (.ref f, [.ref x]) s) : wpAny (model prog w) A (getMethod (.ref x) name pl) Q E s :=
  method_inst I.fr G.X ⟨I.get hx, rfl, rfl, I.get hd⟩ hg hf ht hl h
theorem r_cwm {env : Env} {pos : Pos} {f : Addr} {first : List Value} {e : Expr} {rest : List Expr} {Q : Value → Shared → Prop}
    (G : Glo K mg mb h₀) (ho : fnIn K f = true) (h : wpAny (model prog w) A (spliced (backTo pos (starEach (e :: rest) env))) (fun vs s₁ => KeptIn h₀ s₁ (wpAny (model prog w) A (call (.ref f) (first ++ vs)) Q E s₁)) E s)
    (h1 : starEach (e :: rest) env = (false, eval e env) :: starEach rest env) :
    wpAny (model prog w) A (callWith pos (.ref f) first (backTo pos (starEach (e :: rest) env)) []) Q E s := by
  unfold fnIn at ho
  split at ho
  · rename_i oc od fd osl q
    exact callWith_meth (o := ⟨oc, od, .func fd, osl⟩) rfl (G.X _ _ q) h h1
  · cases ho
end

section
variable {prog : Program} {w : World} {A : Around} {E : Value → Shared → Prop} {h₀ : Heap} {m : PySem.Str → Option Value} {N : Led} {z : Zx} {s : Shared} {env : Env} {x : PySem.Str} {px : Pos} {body : List Stmt} {Q : Flow → Shared → Prop}
theorem In.freshAll {L : Addr} (I : In h₀ L m N z s) : s.heap.objs.size ≠ L ∧ h₀.get? s.heap.objs.size = none ∧ z.prot s.heap.objs.size = none := by
  refine ⟨fun e => ?_, ?_, ?_⟩
  · have := I.fr.ns.lt; rw [← e] at this; exact absurd this (Nat.lt_irrefl _)
  · cases e : h₀.get? s.heap.objs.size with
    | none => rfl
    | some o => exact absurd (Heap.lt_size (I.fr.keep _ _ e)) (Nat.lt_irrefl _)
  · cases e : z.prot s.heap.objs.size with
    | none => rfl
    | some o => exact absurd (Heap.lt_size (I.prot _ _ e).1) (Nat.lt_irrefl _)
/-- a for over a list of the ledger that the body leaves as it is -/
theorem r_iterL {l : Addr} {vs : List Value} {n : Nat} (Inv : Nat → (PySem.Str → Option Value) → Prop) (hh : A.handled = none) (hI : In h₀ env.locals m N z s) (hl : N l = some (listOf vs.toArray n)) (h0 : Inv 0 m)
    (turn : ∀ i v m z' s, vs[i]? = some v → Inv i m → Zle z z' → In h₀ env.locals (upd m x v) N z' s → wpAny (model prog w) A (execs body env) (fun f s' => match f with
      | .ret v => Q (.ret v) s'
      | .brk => Q .next s'
      | _ => ∃ m', Inv (i + 1) m' ∧ In h₀ env.locals m' N z' s') (fun _ _ => False) s)
    (done : ∀ m s, Inv vs.length m → In h₀ env.locals m N z s → Q .next s)
    (hx : env.kindOf x = some .local := by with_unfolding_all rfl) (hk : env.scope.kind = .function := by with_unfolding_all rfl) :
    wpAny (model prog w) A (pyIter (.ref l)) (fun it s₂ => codeAny (model prog w) A (.forLoop (.Name x px) it body [] env) (fun r s' => match r with | .ok f => Q f s' | .error e => cameBackBy (model prog w) A env E e s') s₂) E s := by
  have hls : s.heap.IsList l vs.toArray := ⟨_, hI.get hl, rfl, _, rfl⟩
  refine wpAny_pyIter_list hls ?_
  have hfr := hI.fresh
  have hfa := hI.freshAll
  have hne : l ≠ s.heap.objs.size := fun e => by rw [e, hfr] at hl; cases hl
  have hin : In h₀ env.locals m N z { s with heap := s.heap.push { cls := .type "list_iterator", data := .fields #[.ref l, .int 0 0] } } := hI.keeps ⟨_, _, rfl, fun _ _ e => Heap.get?_push_of_some _ e⟩
  refine loop_walk (fun i m' N' => Inv i m' ∧ N' = N) (Walks.list hh s.heap.objs.size l hne vs.toArray) hin hfa.1 hfa.2.1 hfa.2.2 hfr ⟨⟨_, Heap.get?_push_size _ rfl, rfl, rfl⟩, hls.at fun o e => Heap.get?_push_of_some _ e⟩ ⟨h0, rfl⟩ (fun b hb hne' => ?_) ?_ ?_ ?_ hx hk
  · have hb' : b = l := by
      rcases List.mem_cons.mp hb with e | e
      · exact absurd e hne'
      · exact List.mem_singleton.mp e
    subst hb'
    exact ⟨_, fun i m' N' s' hv I' => I'.get (hv.2 ▸ hl)⟩
  · rintro i v m' N' z' s₂ hi hP ⟨hv, rfl⟩ hzl I₂
    refine wpAny_mono (turn i v m' z' s₂ (by simpa using hP) hv hzl I₂) (fun f s₃ q => ?_) fun _ _ q => q
    cases f with
    | ret v => exact q
    | brk => exact q
    | next => obtain ⟨m'', h3, h4⟩ := q; exact ⟨m'', _, ⟨h3, rfl⟩, h4⟩
    | cont => obtain ⟨m'', h3, h4⟩ := q; exact ⟨m'', _, ⟨h3, rfl⟩, h4⟩
  · rintro i m' N' s₂ ⟨_, rfl⟩ _; exact hfr
  · rintro m' N' s₂ ⟨h3, rfl⟩ h4; exact done m' s₂ (by simpa using h3) h4
theorem r_iterT {l : Addr} {vs : List Value} (Inv : Nat → (PySem.Str → Option Value) → Prop) (hh : A.handled = none) (hI : In h₀ env.locals m N z s) (hl : N l = some (tupleOf vs.toArray)) (h0 : Inv 0 m)
    (turn : ∀ i v m z' s, vs[i]? = some v → Inv i m → Zle z z' → In h₀ env.locals (upd m x v) N z' s → wpAny (model prog w) A (execs body env) (fun f s' => match f with
      | .ret v => Q (.ret v) s'
      | .brk => Q .next s'
      | _ => ∃ m', Inv (i + 1) m' ∧ In h₀ env.locals m' N z' s') (fun _ _ => False) s)
    (done : ∀ m s, Inv vs.length m → In h₀ env.locals m N z s → Q .next s)
    (hx : env.kindOf x = some .local := by with_unfolding_all rfl) (hk : env.scope.kind = .function := by with_unfolding_all rfl) :
    wpAny (model prog w) A (pyIter (.ref l)) (fun it s₂ => codeAny (model prog w) A (.forLoop (.Name x px) it body [] env) (fun r s' => match r with | .ok f => Q f s' | .error e => cameBackBy (model prog w) A env E e s') s₂) E s := by
  have hls : s.heap.IsTuple l vs.toArray := ⟨_, hI.get hl, rfl, _, rfl⟩
  refine wpAny_pyIter_tuple hls ?_
  have hfr := hI.fresh
  have hfa := hI.freshAll
  have hne : l ≠ s.heap.objs.size := fun e => by rw [e, hfr] at hl; cases hl
  have hin : In h₀ env.locals m N z { s with heap := s.heap.push { cls := .type "tuple_iterator", data := .fields #[.ref l, .int 0 0] } } := hI.keeps ⟨_, _, rfl, fun _ _ e => Heap.get?_push_of_some _ e⟩
  refine loop_walk (fun i m' N' => Inv i m' ∧ N' = N) (Walks.tuple hh s.heap.objs.size l hne vs.toArray) hin hfa.1 hfa.2.1 hfa.2.2 hfr ⟨⟨_, Heap.get?_push_size _ rfl, rfl, rfl⟩, hls.at fun o e => Heap.get?_push_of_some _ e⟩ ⟨h0, rfl⟩ (fun b hb hne' => ?_) ?_ ?_ ?_ hx hk
  · have hb' : b = l := by
      rcases List.mem_cons.mp hb with e | e
      · exact absurd e hne'
      · exact List.mem_singleton.mp e
    subst hb'
    exact ⟨_, fun i m' N' s' hv I' => I'.get (hv.2 ▸ hl)⟩
  · rintro i v m' N' z' s₂ hi hP ⟨hv, rfl⟩ hzl I₂
    refine wpAny_mono (turn i v m' z' s₂ (by simpa using hP) hv hzl I₂) (fun f s₃ q => ?_) fun _ _ q => q
    cases f with
    | ret v => exact q
    | brk => exact q
    | next => obtain ⟨m'', h3, h4⟩ := q; exact ⟨m'', _, ⟨h3, rfl⟩, h4⟩
    | cont => obtain ⟨m'', h3, h4⟩ := q; exact ⟨m'', _, ⟨h3, rfl⟩, h4⟩
  · rintro i m' N' s₂ ⟨_, rfl⟩ _; exact hfr
  · rintro m' N' s₂ ⟨h3, rfl⟩ h4; exact done m' s₂ (by simpa using h3) h4
/-- l + r of lists -/
theorem r_addL {L l b : Addr} {vs ws : List Value} {n k : Nat} {Q : Value → Shared → Prop} (I : In h₀ L m N z s) (hl : N l = some (listOf vs.toArray n)) (hb : N b = some (listOf ws.toArray k))
    (h : ∀ a s', N a = none → Keeps s s' → In h₀ L m (N.put a (listOf (vs ++ ws).toArray 0)) z s' → Q (.ref a) s') (hsz : vs.length + ws.length ≤ sizeLine) :
    wpAny (model prog w) A (binaryOp .Add (.ref l) (.ref b)) Q E s := by
  refine P.add_list (I.get hl) (I.get hb) ?_ (by simpa using hsz)
  have e : vs.toArray ++ ws.toArray = (vs ++ ws).toArray := by simp
  rw [e]
  exact h _ _ I.fresh ⟨_, _, rfl, fun _ _ e => Heap.get?_push_of_some _ e⟩ (I.alloc _)
end
-- part A8
mutual
theorem Reads_sub {h h' : Heap} (hk : ∀ b o, h.get? b = some o → (∃ vs n, o.data = .seq vs n) → h'.get? b = some o) : ∀ {v : Value} {d : PyData} {as : List Addr}, Reads h v d as → d.hasDict = false → Reads h' v d as
  | _, _, _, .none, _ => .none
  | _, _, _, .bool _, _ => .bool _
  | _, _, _, .int _ _, _ => .int _ _
  | _, _, _, .str _ _, _ => .str _ _
  | _, _, _, .list h1 h2 h3 h4, e => .list (hk _ _ h1 ⟨_, _, h3⟩) h2 h3 (ReadsAll_sub hk h4 (by simpa only [PyData.hasDict] using e))
  | _, _, _, .tuple h1 h2 h3 h4, e => .tuple (hk _ _ h1 ⟨_, _, h3⟩) h2 h3 (ReadsAll_sub hk h4 (by simpa only [PyData.hasDict] using e))
  | _, _, _, .dict .., e => by simp only [PyData.hasDict] at e; cases e
theorem ReadsAll_sub {h h' : Heap} (hk : ∀ b o, h.get? b = some o → (∃ vs n, o.data = .seq vs n) → h'.get? b = some o) : ∀ {vs : List Value} {ds : List PyData} {as : List Addr}, ReadsAll h vs ds as → PyData.hasDictAll ds = false → ReadsAll h' vs ds as
  | _, _, _, .nil, _ => .nil
  | _, _, _, .cons h1 h2, e => by
    simp only [PyData.hasDictAll, Bool.or_eq_false_iff] at e
    exact .cons (Reads_sub hk h1 e.1) (ReadsAll_sub hk h2 e.2)
end
/-- all that lies there beyond the frame, the older heap and what is kept elsewhere -/
noncomputable def fullLed (h₀ : Heap) (L : Addr) (z : Zx) (h : Heap) : Led := fun a => if a = L ∨ (h₀.get? a).isSome = true ∨ (z.prot a).isSome = true then none else h.get? a
section
variable {h₀ : Heap} {L : Addr} {m m' : PySem.Str → Option Value} {N : Led} {z : Zx} {s s' : Shared}
theorem In.full (I : In h₀ L m N z s) : In h₀ L m (fullLed h₀ L z s.heap) z s ∧ Led.Le N (fullLed h₀ L z s.heap) := by
  refine ⟨⟨I.fr, fun a o e => ?_, fun a o e => ⟨(I.prot a o e).1, (I.prot a o e).2.1, (I.prot a o e).2.2.1, ?_⟩, I.gens, I.drawn, I.os⟩, fun a o e => ?_⟩
  · unfold fullLed at e
    split at e
    · cases e
    · rename_i hn
      refine ⟨e, fun q => hn (.inl q), ?_⟩
      cases q : h₀.get? a with
      | none => rfl
      | some x => exact absurd (.inr (.inl (by rw [q]; rfl))) hn
  · unfold fullLed
    rw [if_pos (.inr (.inr (by rw [e]; rfl)))]
  · unfold fullLed
    have P := I.led a o e
    rw [if_neg, P.1]
    rintro (q | q | q)
    · exact P.2.1 q
    · rw [P.2.2] at q; cases q
    · cases hp : z.prot a with
      | none => rw [hp] at q; cases q
      | some x => have := (I.prot a x hp).2.2.2; rw [e] at this; cases this
theorem In.after (I : In h₀ L m N z s) (J : In h₀ L m' (fullLed h₀ L z s.heap) z s') : ∀ b o, s.heap.get? b = some o → b ≠ L → s'.heap.get? b = some o := fun b o e hb => by
  cases q : h₀.get? b with
  | some x => have := I.fr.keep b x q; rw [e] at this; cases this; exact J.fr.keep b o q
  | none =>
    cases r : z.prot b with
    | some x => have := (I.prot b x r).1; rw [e] at this; cases this; exact (J.prot b o r).1
    | none => exact (J.led b o (by unfold fullLed; rw [if_neg (by rw [q, r]; simp [hb])]; exact e)).1
theorem In.reads (I : In h₀ L m N z s) (J : In h₀ L m' (fullLed h₀ L z s.heap) z s') {v : Value} {d : PyData} {as : List Addr} (r : Reads s.heap v d as) (hd : d.hasDict = false) : Reads s'.heap v d as := by
  obtain ⟨oL, es, ep, hL, hLd, _⟩ := I.fr.ns
  refine Reads_sub (fun b o e ⟨vs, n, q⟩ => I.after J b o e fun y => ?_) r hd
  subst y
  rw [hL] at e; cases e
  rw [hLd] at q; cases q
end
noncomputable def strD : PyData → PySem.Str
  | .str x => x
  | d => d.shown
noncomputable def isStrD : PyData → Bool
  | .str _ => true
  | _ => false
section
variable {prog : Program} {w : World} {A : Around} {E : Value → Shared → Prop} {h₀ : Heap} {m : PySem.Str → Option Value} {N : Led} {z : Zx} {s : Shared} {L : Addr} {K : Frag} {mg mb : PySem.Str → Option Value}
theorem r_isiStr {v : Value} {d : PyData} {as : List Addr} {Q : Value → Shared → Prop} (G : Glo K mg mb h₀) (I : In h₀ L m N z s) (r : Reads s.heap v d as) (hd : d.hasDict = false) (h : ∀ s', In h₀ L m N z s' → Q (.bool (isStrD d)) s') :
    wpAny (model prog w) A (call (.builtin "isinstance") [v, .type "str"]) Q E s := by
  cases r with
  | none => exact r_isi G I kitx_none trivial (kt_NoneType_str _) (by intro h; cases h) h
  | bool b => exact r_isi G I kitx_bool trivial (kt_bool_str _) (by intro h; cases h) h
  | int i t => exact r_isi G I kitx_int trivial (kt_int_str _) (by intro h; cases h) h
  | str x t => exact r_isi G I kitx_str trivial (kt_str_str _) (by intro h; cases h) h
  | list h1 h2 h3 h4 => exact r_isi G I kitx_list ⟨_, h1, h2⟩ (kt_list_str _) (by intro h; cases h) h
  | tuple h1 h2 h3 h4 => exact r_isi G I kitx_tuple ⟨_, h1, h2⟩ (kt_tuple_str _) (by intro h; cases h) h
  | dict => simp only [PyData.hasDict] at hd; cases hd
end
-- part B1

noncomputable def signs : PySem.Str := PySem.Str.ofString "a'\"\\\n\r\t\x00\x7f\xa0é中😀" ++ PySem.Str.ofString "0 {"
noncomputable def sgn (k : Nat) : Nat := signs.cps.getD k 0
noncomputable def signsOf : Nat → Nat → List Nat
  | 0, _ => []
  | k + 1, n => if n = 0 then [] else sgn (n % 16) :: signsOf k (n / 16)
noncomputable def strOf (l : List Nat) : PySem.Str := ⟨l.toArray⟩
noncomputable def lawText (n : Int) : PySem.Str := strOf (signsOf 8 (n.natAbs % 4294967296))
theorem signsOf_zero (k : Nat) : signsOf k 0 = [] := by cases k <;> simp [signsOf]
theorem strOf_append (a b : List Nat) : strOf a ++ strOf b = strOf (a ++ b) := by
  show (⟨a.toArray ++ b.toArray⟩ : PySem.Str) = ⟨(a ++ b).toArray⟩
  simp
theorem strOf_length (a : List Nat) : (strOf a).length = a.length := by show a.toArray.size = _; simp
theorem signs_length : signs.length = 16 := by decide +kernel
theorem signs_size : signs.cps.size = 16 := signs_length

set_option maxRecDepth 100000 in
set_option maxHeartbeats 2000000 in
theorem text_spec {w : World} {A : Around} {E : Value → Shared → Prop} {mg mb : PySem.Str → Option Value} {s : Shared} (G : Glo (hd.heap_39 w.params) mg mb s.heap) (R : Rm A 1 8) (n : Int) (t : Tok) :
    wpAny (model PySem.Challenge.rw_kp0026_09.prog w) A (call (.ref 113) [.int n t]) (fun v s' => (∃ t', v = .str (lawText n) t' ∧ t' ≠ 0) ∧ Keeps s s') E s := by
  refine' call_fn (binds := [(Str.ofString "number", .int n t)]) (fun v _ => ∃ t', v = .str (lawText n) t' ∧ t' ≠ 0) G (R.less (d' := 0) (u' := 0)).depth ?ho ?hcd ?hb ?hc ?hl ?c1 ?c2 ?c3 ?_
  case ho => k_is
  case hcd => k_is
  case hb => exact BindsTo.of_eq rfl
  case hc => decide
  case hl => exact locs rfl
  case c1 => rfl
  case c2 => rfl
  case c3 => rfl
  intro s₁ I
  walk_at "gs"
  refine x_while (r_while (σ := Nat × Nat × List Nat) (fun c m => (∃ t, m (Str.ofString "signs") = some (.str signs t)) ∧ (∃ t, m (Str.ofString "number") = some (.int (c.2.1 : Int) t)) ∧ (∃ t, m (Str.ofString "text") = some (.str (strOf c.2.2) t) ∧ t ≠ 0) ∧
      strOf (c.2.2 ++ signsOf c.1 c.2.1) = lawText n ∧ c.2.1 < 16 ^ c.1 ∧ c.2.2.length + c.1 ≤ 8) (fun c => c.1 + c.2.1) (8, n.natAbs % 4294967296, []) (by assumption) ?start ?_)
  case start =>
    refine ⟨⟨_, by walk_at "look"⟩, ex_ne (by decide +kernel) (ex_int ?_), ⟨_, by walk_at "look", by assumption⟩, by simp [lawText], by simp; omega, by simp⟩
    exact fmodN n.natAbs 4294967296
  rintro ⟨k, num, acc⟩ m s I ⟨⟨t1, h1⟩, ⟨t2, h2⟩, ⟨t3, h3, ht3⟩, h4, h5, h6⟩
  dsimp only at h1 h2 h3 h4 h5 h6
  walk_at "gs"
  refine if_dec (fun hp => ?_) (fun hp => ?_)
  · walk_at "gs"
    have e1 : Int.fmod (num : Int) 16 = ((num % 16 : Nat) : Int) := fmodN num 16
    refine r_itemST (by assumption) (by assumption) (by omega) (by rw [signs_length]; omega) (by rw [signs_length]; decide) ?_
    intro t5 s5 I5 ht5 hp5
    refine r_iaddST (by assumption) hp5 ht3 ht5 ?_ (by rw [strOf_length]; show acc.length + 1 ≤ 16777216; omega)
    intro t6 s6 I6 ht6
    walk_at "gs"
    have hk : k ≠ 0 := by rintro rfl; simp at h5; omega
    obtain ⟨k', rfl⟩ : ∃ k', k = k' + 1 := ⟨k - 1, by omega⟩
    have e2 : Int.fdiv (num : Int) 16 = ((num / 16 : Nat) : Int) := fdivN num 16
    have h7 : num / 16 < 16 ^ k' := by rw [Nat.pow_succ] at h5; omega
    refine ⟨rfl, (k', num / 16, acc ++ [sgn (num % 16)]), _, ?_, ?_, by assumption⟩
    rotate_left
    refine ⟨⟨_, by walk_at "look"⟩, ex_int e2, ?_, ?_, h7, ?_⟩
    rotate_right
    · show k' + num / 16 < k' + 1 + num; omega
    · refine ⟨t6, ?_, ht6⟩
      refine upd_ne (by decide +kernel) (upd_hit rfl ?_)
      rw [e1, ← strOf_append]; rfl
    · rw [← h4]
      show strOf (acc ++ [sgn (num % 16)] ++ signsOf k' (num / 16)) = strOf (acc ++ signsOf (k' + 1) num)
      rw [signsOf, if_neg (by omega)]; simp
    · simp; omega
  · have hz : num = 0 := by omega
    subst hz
    walk_at "gs"
    rw [signsOf_zero, List.append_nil] at h4
    exact ⟨⟨t3, by rw [h4], ht3⟩, _, _, _, by assumption⟩
-- part B2
noncomputable def hexDigit (k : Nat) : Nat := (Str.ofString "0123456789abcdef").cps.getD k 0
noncomputable def figsAux : Nat → Nat → Nat → Nat → List Nat → List Nat
  | 0, _, _, _, acc => acc
  | k + 1, n, b, p, acc => if 0 < n ∨ acc.length < p then figsAux k (n / b) b p (hexDigit (n % b) :: acc) else acc
noncomputable def figs (n b p : Nat) : List Nat := figsAux 64 n b p []
theorem hex_length : (Str.ofString "0123456789abcdef").length = 16 := by decide +kernel

set_option maxRecDepth 100000 in
set_option maxHeartbeats 2000000 in
theorem figs_spec {w : World} {A : Around} {E : Value → Shared → Prop} {mg mb : PySem.Str → Option Value} {s : Shared} (G : Glo (hd.heap_39 w.params) mg mb s.heap) (R : Rm A 1 8) (n b p : Nat) (t1 t2 t3 : Tok)
    (hn : n < 2 ^ 40) (hb : 2 ≤ b) (hb' : b ≤ 16) (hp : p ≤ 8) :
    wpAny (model PySem.Challenge.rw_kp0026_09.prog w) A (call (.ref 127) [.int n t1, .int b t2, .int p t3]) (fun v s' => (∃ t', v = .str (strOf (figs n b p)) t') ∧ Keeps s s') E s := by
  refine' call_fn (binds := [(Str.ofString "number", .int n t1), (Str.ofString "base", .int b t2), (Str.ofString "places", .int p t3)]) (fun v _ => ∃ t', v = .str (strOf (figs n b p)) t') G (R.less (d' := 0) (u' := 0)).depth ?ho ?hcd ?hb ?hc ?hl ?c1 ?c2 ?c3 ?_
  case ho => k_is
  case hcd => k_is
  case hb => exact BindsTo.of_eq rfl
  case hc => decide
  case hl => exact locs rfl
  case c1 => rfl
  case c2 => rfl
  case c3 => rfl
  intro s₁ I
  walk_at "gs"
  refine x_while (r_while (σ := Nat × Nat × List Nat) (fun c m => (∃ t, m (Str.ofString "base") = some (.int (b : Int) t)) ∧ (∃ t, m (Str.ofString "places") = some (.int (p : Int) t)) ∧ (∃ t, m (Str.ofString "number") = some (.int (c.2.1 : Int) t)) ∧ (∃ t, m (Str.ofString "out") = some (.str (strOf c.2.2) t)) ∧
      figsAux c.1 c.2.1 b p c.2.2 = figs n b p ∧ c.2.1 < 2 ^ (c.1 - 24) ∧ 24 ≤ c.1 ∧ p ≤ c.2.2.length + (c.1 - 24) ∧ c.2.2.length + c.1 ≤ 64) (fun c => c.2.1 + (p - c.2.2.length)) (64, n, []) (by assumption) ?start ?_)
  case start =>
    refine ⟨⟨_, by walk_at "look"⟩, ⟨_, by walk_at "look"⟩, ⟨_, by walk_at "look"⟩, ⟨_, by walk_at "look"⟩, rfl, by simpa using hn, by show 24 ≤ 64; omega, by simp; omega, by simp⟩
  rintro ⟨k, num, acc⟩ m s I ⟨⟨t1, h1⟩, ⟨t2, h2⟩, ⟨t3, h3⟩, ⟨t4, h4⟩, h5, h6, h7, h8, h9⟩
  dsimp only at h1 h2 h3 h4 h5 h6 h7 h8 h9
  have hk : k ≠ 0 := by omega
  obtain ⟨k', rfl⟩ : ∃ k', k = k' + 1 := ⟨k - 1, by omega⟩
  have done : ¬ (0 < num ∨ acc.length < p) → strOf acc = strOf (figs n b p) := fun h => by rw [← h5, figsAux, if_neg h]
  have num64 : num < 2 ^ 40 := Nat.lt_of_lt_of_le h6 (Nat.pow_le_pow_right (by omega) (by omega))
  have e1 : Int.fmod (num : Int) b = ((num % b : Nat) : Int) := fmodN num b
  have e2 : Int.fdiv (num : Int) b = ((num / b : Nat) : Int) := fdivN num b
  have e3 : num % b < b := Nat.mod_lt _ (by omega)
  have e4 : num / b ≤ num / 2 := Nat.div_le_div_left hb (by omega)
  have e5 : (b : Int) ≠ 0 := by omega
  have fin : (0 < num ∨ acc.length < p) → num / b + (p - (acc.length + 1)) < num + (p - acc.length) ∧ figsAux k' (num / b) b p (hexDigit (num % b) :: acc) = figs n b p ∧ num / b < 2 ^ (k' - 24) ∧ 24 ≤ k' ∧ p ≤ acc.length + 1 + (k' - 24) := fun hc => by
    rw [figsAux, if_pos hc] at h5
    have hj : 24 ≤ k' := by
      apply Classical.byContradiction
      intro hh
      have e : k' + 1 - 24 = 0 := by omega
      rw [e] at h6 h8
      simp at h6
      omega
    have e : k' + 1 - 24 = (k' - 24) + 1 := by omega
    rw [e, Nat.pow_succ] at h6
    exact ⟨by omega, h5, by omega, hj, by omega⟩
  walk_at "gs"
  refine wpAny_isTrue_BoolOp ?_
  walk_at "gs"
  refine if_dec (fun hp => ?_) (fun hp => ?_)
  rotate_left
  · walk_at "gs"
    refine r_lenS (by assumption) ?_ (by rw [strOf_length]; omega)
    intro t5 s5 I5
    walk_at "gs"
    refine if_dec (fun hq => ?_) (fun hq => ?_)
    rotate_left
    · walk_at "gs"
      rw [strOf_length] at hq
      exact ⟨⟨_, by rw [done (by omega)]⟩, _, _, _, by assumption⟩
    · rw [strOf_length] at hq
      walk_at "gs"
      refine r_itemS (by assumption) (by omega) (by rw [hex_length]; omega) (by rw [hex_length]; decide) ?_
      intro t6 s6 I6
      walk_at "gs"
      refine r_addS (by assumption) ?_ (by rw [strOf_length]; show 1 + acc.length ≤ 16777216; omega)
      intro t7 s7 I7
      walk_at "gs"
      refine r_div (by assumption) e5 ?_ (.inl (PyProof.noPylong_small (by omega)))
      intro t8 s8 I8
      walk_at "gs"
      obtain ⟨f1, f2, f3, f4, f5⟩ := fin (by omega)
      refine ⟨rfl, (k', num / b, hexDigit (num % b) :: acc), _, f1, ⟨⟨_, by walk_at "look"⟩, ⟨_, by walk_at "look"⟩, ex_int e2, ex_ne (by decide +kernel) (ex_str ?_), f2, f3, f4, f5, by simp; omega⟩, by assumption⟩
      rw [e1]; exact strOf_append [hexDigit (num % b)] acc
  · walk_at "gs"
    refine r_itemS (by assumption) (by omega) (by rw [hex_length]; omega) (by rw [hex_length]; decide) ?_
    intro t6 s6 I6
    walk_at "gs"
    refine r_addS (by assumption) ?_ (by rw [strOf_length]; show 1 + acc.length ≤ 16777216; omega)
    intro t7 s7 I7
    walk_at "gs"
    refine r_div (by assumption) e5 ?_ (.inl (PyProof.noPylong_small (by omega)))
    intro t8 s8 I8
    walk_at "gs"
    obtain ⟨f1, f2, f3, f4, f5⟩ := fin (by omega)
    refine ⟨rfl, (k', num / b, hexDigit (num % b) :: acc), _, f1, ⟨⟨_, by walk_at "look"⟩, ⟨_, by walk_at "look"⟩, ex_int e2, ex_ne (by decide +kernel) (ex_str ?_), f2, f3, f4, f5, by simp; omega⟩, by assumption⟩
    rw [e1]; exact strOf_append [hexDigit (num % b)] acc
theorem figs_spec16 {w : World} {A : Around} {E : Value → Shared → Prop} {mg mb : PySem.Str → Option Value} {s : Shared} (G : Glo (hd.heap_39 w.params) mg mb s.heap) (R : Rm A 1 8) (n p : Nat) (q : Int) (t1 t2 t3 : Tok)
    (hq : q = (p : Int)) (hn : n < 2 ^ 40) (hp : p ≤ 8) :
    wpAny (model PySem.Challenge.rw_kp0026_09.prog w) A (call (.ref 127) [.int n t1, .int 16 t2, .int q t3]) (fun v s' => (∃ t', v = .str (strOf (figs n 16 p)) t') ∧ Keeps s s') E s := by
  subst hq
  exact figs_spec G R n 16 p t1 t2 t3 hn (by omega) (by omega) hp
theorem figs_spec10 {w : World} {A : Around} {E : Value → Shared → Prop} {mg mb : PySem.Str → Option Value} {s : Shared} (G : Glo (hd.heap_39 w.params) mg mb s.heap) (R : Rm A 1 8) (n : Nat) (t1 t2 t3 : Tok) (hn : n < 2 ^ 40) :
    wpAny (model PySem.Challenge.rw_kp0026_09.prog w) A (call (.ref 127) [.int n t1, .int 10 t2, .int 1 t3]) (fun v s' => (∃ t', v = .str (strOf (figs n 10 1)) t') ∧ Keeps s s') E s :=
  figs_spec G R n 10 1 t1 t2 t3 hn (by omega) (by omega) (by omega)
-- part B3
noncomputable def lawValue (x : Int) : PyData :=
  if x.fmod 4 = 0 then .str (lawText (x.fdiv 4))
  else if x.fmod 4 = 1 then
    if (x.fdiv 4).fmod 4 = 3 then (if ((x.fdiv 4).fdiv 4).fmod 3 = 0 then .none else .bool (((x.fdiv 4).fdiv 4).fmod 3 == 1))
    else .int ((x.fdiv 4).fmod 1000000000 - 500000000)
  else if x.fmod 4 = 2 then .list [.str (lawText (x.fdiv 4)), .none, .bool ((x.fdiv 4).fmod 3 == 0), .list [.str (lawText ((x.fdiv 4).fdiv 16)), .int ((x.fdiv 4).fmod 11 - 5)]]
  else .tuple [.str (lawText (x.fdiv 4))]

-- MACROS
local macro_rules | `(tactic| walk_at "ext") => `(tactic| ((with_reducible show wpAny _ _ (call (Value.ref 113) _) _ _ _); (with_reducible refine r_call (by assumption) (text_spec (Glo.keeps (by assumption) (Fr.keep (In.fr (by assumption)))) (Rm.less (Rm.deeper (by assumption))) _ _) ?_); (rintro _ _ ⟨_, hv, _⟩ _ _; subst hv)))
-- END MACROS
set_option maxRecDepth 100000 in
set_option maxHeartbeats 2000000 in
theorem value_spec {w : World} {A : Around} {E : Value → Shared → Prop} {mg mb : PySem.Str → Option Value} {s : Shared} (G : Glo (hd.heap_39 w.params) mg mb s.heap) (R : Rm A 2 11) (x : Int) (t : Tok) :
    wpAny (model PySem.Challenge.rw_kp0026_09.prog w) A (call (.ref 120) [.int x t]) (fun v s' => ((∃ as, Reads s'.heap v (lawValue x) as) ∧ TokOk v) ∧ Keeps s s') E s := by
  refine' call_fn (binds := [(Str.ofString "x", .int x t)]) (fun v s' => (∃ as, Reads s'.heap v (lawValue x) as) ∧ TokOk v) G (R.less (d' := 0) (u' := 0)).depth ?ho ?hcd ?hb ?hc ?hl ?c1 ?c2 ?c3 ?_
  case ho => k_is
  case hcd => k_is
  case hb => exact BindsTo.of_eq rfl
  case hc => decide
  case hl => exact locs rfl
  case c1 => rfl
  case c2 => rfl
  case c3 => rfl
  intro s₁ I
  walk_at "gs"
  refine if_beq (fun c0 => ?_) (fun c0 => ?_)
  · walk_at "gs"
    exact ⟨⟨⟨_, by rw [lawValue, if_pos c0]; exact .str _ _⟩, by assumption⟩, _, _, _, by assumption⟩
  walk_at "gs"
  refine if_beq (fun c1 => ?_) (fun c1 => ?_)
  · walk_at "gs"
    have hlv : lawValue x = (if (x.fdiv 4).fmod 4 = 3 then (if ((x.fdiv 4).fdiv 4).fmod 3 = 0 then .none else .bool (((x.fdiv 4).fdiv 4).fmod 3 == 1))
      else .int ((x.fdiv 4).fmod 1000000000 - 500000000)) := by rw [lawValue, if_neg c0, if_pos c1]
    refine wpAny_IfExp ?_
    walk_at "gs"
    refine if_beq (fun c3 => ?_) (fun c3 => ?_)
    · walk_at "gs"
      have hb : 0 ≤ ((x.fdiv 4).fdiv 4).fmod 3 ∧ ((x.fdiv 4).fdiv 4).fmod 3 < 3 := ⟨Int.fmod_nonneg_of_pos _ (by decide), Int.fmod_lt_of_pos _ (by decide)⟩
      have h3 : ((x.fdiv 4).fdiv 4).fmod 3 = 0 ∨ ((x.fdiv 4).fdiv 4).fmod 3 = 1 ∨ ((x.fdiv 4).fdiv 4).fmod 3 = 2 := by omega
      have key : ∃ v : Value, ([Value.none, Value.bool true, Value.bool false] : List Value)[(((x.fdiv 4).fdiv 4).fmod 3).toNat]? = some v ∧ TokOk v ∧ ∀ h, Reads h v (lawValue x) [] := by
        rw [hlv, if_pos c3]
        rcases h3 with h | h | h <;> rw [h]
        · exact ⟨_, rfl, trivial, fun _ => .none⟩
        · exact ⟨_, rfl, trivial, fun _ => .bool _⟩
        · exact ⟨_, rfl, trivial, fun _ => .bool _⟩
      obtain ⟨v, hv, htk, hr⟩ := key
      refine r_itemL (by assumption) Led.put_same hb.1 (by omega) hv ?_
      walk_at "gs"
      exact ⟨⟨⟨_, hr _⟩, htk⟩, _, _, _, by assumption⟩
    · walk_at "gs"
      rw [hlv, if_neg c3]
      exact ⟨⟨⟨[], .int _ _⟩, by assumption⟩, _, _, _, by assumption⟩
  walk_at "gs"
  refine if_beq (fun c2 => ?_) (fun c2 => ?_)
  · walk_at "gs"
    rw [lawValue, if_neg c0, if_neg c1, if_pos c2]
    exact ⟨⟨⟨_, reads_list (In.get (by assumption) Led.put_same) (.cons (.str _ _) (.cons .none (.cons (.bool _) (.cons (reads_list (In.get (by assumption) (Led.put_of Led.put_same (by assumption))) (.cons (.str _ _) (.cons (.int _ _) .nil))) .nil))))⟩, trivial⟩, _, _, _, by assumption⟩
  walk_at "gs"
  rw [lawValue, if_neg c0, if_neg c1, if_neg c2]
  exact ⟨⟨⟨_, reads_tuple (In.get (by assumption) Led.put_same) (.cons (.str _ _) .nil)⟩, trivial⟩, _, _, _, by assumption⟩
-- part B4
noncomputable def lsQuote (l : List Nat) : Nat := if 39 ∈ l ∧ 34 ∉ l then 34 else 39
noncomputable def lsChar (plain : Bool) (q c : Nat) : List Nat :=
  if c = q ∨ c = 92 then [92, c]
  else if c ∈ [10, 13, 9] then [92, if c = 10 then 110 else if c = 9 then 116 else 114]
  else if (32 ≤ c ∧ c < 127) ∨ (c ∈ [233, 20013, 128512] ∧ plain = false) then [c]
  else if c < 256 then [92, 120] ++ figs c 16 2
  else if c < 65536 then [92, 117] ++ figs c 16 4
  else [92, 85] ++ figs c 16 8
noncomputable def lsText (plain : Bool) (l : List Nat) : List Nat := lsQuote l :: (l.flatMap (lsChar plain (lsQuote l)) ++ [lsQuote l])

theorem figsAux_length (k n b p : Nat) (acc : List Nat) : (figsAux k n b p acc).length ≤ acc.length + k := by
  induction k generalizing n acc with
  | zero => exact Nat.le_refl _
  | succ k ih =>
    rw [figsAux]
    split
    · have := ih (n / b) (hexDigit (n % b) :: acc); simp only [List.length_cons] at this; omega
    · omega
theorem figs_length (n b p : Nat) : (figs n b p).length ≤ 64 := by have := figsAux_length 64 n b p []; simpa [figs] using this
theorem lsChar_length (plain : Bool) (q c : Nat) : (lsChar plain q c).length ≤ 66 := by
  have h1 := figs_length c 16 2
  have h2 := figs_length c 16 4
  have h3 := figs_length c 16 8
  unfold lsChar
  (repeat' split) <;> simp only [List.length_cons, List.length_nil, List.length_append] <;> omega
theorem flat_length {f : Nat → List Nat} (hf : ∀ c, (f c).length ≤ 66) : ∀ l : List Nat, (l.flatMap f).length ≤ 66 * l.length
  | [] => by simp
  | c :: r => by have := flat_length hf r; have := hf c; simp only [List.flatMap_cons, List.length_append, List.length_cons]; omega
theorem strOf_cps (l : List Nat) : (strOf l).cps = l.toArray := rfl
theorem strOf_mk (l : List Nat) : (⟨l.toArray⟩ : PySem.Str) = strOf l := rfl
theorem strOf_eq1 (a b : Nat) : ((⟨#[a]⟩ : PySem.Str) == ⟨#[b]⟩) = decide (a = b) := by
  rw [Bool.eq_iff_iff]
  simp

-- MACROS
local macro_rules | `(tactic| walk_at "ext") => `(tactic| ((with_reducible show wpAny _ _ (call (Value.ref 127) _) _ _ _); (first | ((with_reducible show wpAny _ _ (call _ [_, _, Value.int 2 _]) _ _ _); (with_reducible refine r_call (by assumption) (figs_spec16 (Glo.keeps (by assumption) (Fr.keep (In.fr (by assumption)))) (Rm.less (Rm.deeper (by assumption))) _ 2 _ _ _ _ rfl (by assumption) (by decide)) ?_)) | ((with_reducible show wpAny _ _ (call _ [_, _, Value.int 4 _]) _ _ _); (with_reducible refine r_call (by assumption) (figs_spec16 (Glo.keeps (by assumption) (Fr.keep (In.fr (by assumption)))) (Rm.less (Rm.deeper (by assumption))) _ 4 _ _ _ _ rfl (by assumption) (by decide)) ?_)) | ((with_reducible show wpAny _ _ (call _ [_, _, Value.int 8 _]) _ _ _); (with_reducible refine r_call (by assumption) (figs_spec16 (Glo.keeps (by assumption) (Fr.keep (In.fr (by assumption)))) (Rm.less (Rm.deeper (by assumption))) _ 8 _ _ _ _ rfl (by assumption) (by decide)) ?_))); (rintro _ _ ⟨_, hv⟩ _ _; subst hv)))
local macro_rules | `(tactic| walk_at "ext") => `(tactic| ((with_reducible show wpAny _ _ (eval (Expr.Name _ _) _) _ _ _); (refine r_cell (by assumption) (by with_unfolding_all rfl) (by assumption) (by assumption) ?_)))
-- END MACROS
set_option maxRecDepth 100000 in
set_option maxHeartbeats 4000000 in
theorem shown_str {w : World} {A : Around} {E : Value → Shared → Prop} {mg mb : PySem.Str → Option Value} {s : Shared} (G : Glo (hd.heap_39 w.params) mg mb s.heap) (R : Rm A 2 11) (l : List Nat) (t : Tok) (plain : Bool)
    (hl : l.length ≤ 64) (hc : ∀ c ∈ l, c < 2 ^ 40) :
    wpAny (model PySem.Challenge.rw_kp0026_09.prog w) A (call (.ref 132) [.str (strOf l) t, .bool plain]) (fun v s' => (∃ t', v = .str (strOf (lsText plain l)) t') ∧ Keeps s s') E s := by
  refine' call_fnC (binds := [(Str.ofString "value", .str (strOf l) t), (Str.ofString "plain", .bool plain)]) (fun v _ => ∃ t', v = .str (strOf (lsText plain l)) t') G (R.less (d' := 0) (u' := 0)).depth ?ho ?hcd ?hb ?hl ?c1 ?c2 ?c3 ?_
  case ho => k_is
  case hcd => k_is
  case hb => exact rfl
  case hl => rfl
  case c1 => rfl
  case c2 => rfl
  case c3 => rfl
  intro s₁ N I hcell
  obtain ⟨oc, hN, hd⟩ := hcell (Str.ofString "plain") (s.heap.objs.size + 1) rfl
  replace hd : oc.data = .cell (some (.bool plain)) := hd
  walk_at "gs"
  refine wpAny_isTrue_BoolOp ?_
  walk_at "gs"
  have e39 : Str.ofString "'" = ⟨#[39]⟩ := by decide +kernel
  have e34 : Str.ofString "\"" = ⟨#[34]⟩ := by decide +kernel
  refine cutI (by assumption) (fun v => ∃ t, v = .str ⟨#[lsQuote l]⟩ t) (wpAny_IfExp (wpAny_isTrue_BoolOp ?_)) ?_
  · walk_at "gs"
    rw [e39]
    refine in_str1 ?_
    walk_at "gs"
    refine if_dec (fun h1 => ?_) (fun h1 => ?_)
    · walk_at "gs"
      rw [e34]
      refine notIn_str1 ?_
      walk_at "gs"
      refine if_ndec (fun h2 => ?_) (fun h2 => ?_)
      · walk_at "gs"
        have hq : lsQuote l = 34 := by simp [strOf] at h1 h2; simp [lsQuote, h1, h2]
        exact ⟨⟨_, by rw [hq]⟩, by assumption⟩
      · walk_at "gs"
        have hq : lsQuote l = 39 := by simp [strOf] at h1 h2; simp [lsQuote, h2]
        exact ⟨⟨_, by rw [hq]⟩, by assumption⟩
    · walk_at "gs"
      have hq : lsQuote l = 39 := by simp [strOf] at h1; simp [lsQuote, h1]
      exact ⟨⟨_, by rw [hq]⟩, by assumption⟩
  rintro _ s2 ⟨tq, rfl⟩ I2
  walk_at "gs"
  have e92 : Str.ofString "\\" = ⟨#[92]⟩ := by decide +kernel
  refine x_for (r_forStr (y := strOf l) (t := t) (fun i m => (∃ t, m (Str.ofString "quote") = some (.str ⟨#[lsQuote l]⟩ t)) ∧ (∃ t, m (Str.ofString "out") = some (.str (strOf (lsQuote l :: (l.take i).flatMap (lsChar plain (lsQuote l)))) t))) R.handled (by assumption) ?start ?iter ?turn ?done)
  case start => exact ⟨⟨_, by walk_at "look"⟩, ex_str (by simp [strOf])⟩
  case iter =>
    intro Q' hQ'
    refine r_name (by assumption) (by walk_at "look") ?_
    exact hQ' _ (by assumption)
  case done =>
    rintro m s ⟨⟨t1, h1⟩, ⟨t2, h2⟩⟩ I3
    have e : l.take (strOf l).cps.size = l := by simp [strOf]
    rw [e] at h2
    walk_at "gs"
    refine r_addS (by assumption) ?_ (by
      have := flat_length (lsChar_length plain (lsQuote l)) l
      rw [strOf_length]; simp only [List.length_cons]; show _ + 1 ≤ 16777216; omega)
    intro t3 s3 I4
    walk_at "gs"
    refine ⟨⟨t3, ?_⟩, _, _, _, I4⟩
    show Value.str (strOf _ ++ strOf [lsQuote l]) t3 = _
    rw [strOf_append, lsText]
    rfl
  rintro i c m t1 z' s3 hci ⟨⟨t2, h1⟩, ⟨t3, h2⟩⟩ hz I3
  have hl' : l[i]? = some c := by simpa [strOf] using hci
  have hcm := List.mem_of_getElem? hl'
  have hc40 := hc c hcm
  obtain ⟨acc, hacc⟩ : ∃ acc, acc = lsQuote l :: (l.take i).flatMap (lsChar plain (lsQuote l)) := ⟨_, rfl⟩
  have hal : (strOf acc).length ≤ 5000 := by
    have := flat_length (lsChar_length plain (lsQuote l)) (l.take i)
    have h3 : (l.take i).length ≤ l.length := by rw [List.length_take]; omega
    rw [hacc, strOf_length]; simp only [List.length_cons]; omega
  rw [← hacc] at h2
  have fin : ∀ {m' : PySem.Str → Option Value} {s' : Shared}, In s.heap s.heap.objs.size m' N z' s' → (∃ add, lsChar plain (lsQuote l) c = add ∧ (∃ t, m' (Str.ofString "quote") = some (.str ⟨#[lsQuote l]⟩ t)) ∧ (∃ t, m' (Str.ofString "out") = some (.str (strOf acc ++ strOf add) t))) →
      ∃ m', ((∃ t, m' (Str.ofString "quote") = some (.str ⟨#[lsQuote l]⟩ t)) ∧ (∃ t, m' (Str.ofString "out") = some (.str (strOf (lsQuote l :: (l.take (i + 1)).flatMap (lsChar plain (lsQuote l)))) t))) ∧ In s.heap s.heap.objs.size m' N z' s' := by
    rintro m' s' h3 ⟨add, ha, h1, ⟨t, h2⟩⟩
    refine ⟨m', ⟨h1, t, ?_⟩, h3⟩
    rw [h2, strOf_append, hacc, ← ha, List.take_add_one, hl']
    simp
  have g2 : (strOf (figs c 16 2)).length ≤ 64 := by rw [strOf_length]; exact figs_length _ _ _
  have g4 : (strOf (figs c 16 4)).length ≤ 64 := by rw [strOf_length]; exact figs_length _ _ _
  have g8 : (strOf (figs c 16 8)).length ≤ 64 := by rw [strOf_length]; exact figs_length _ _ _
  have e1 : (Str.ofString "\\x").length = 2 := by decide +kernel
  have e2 : (Str.ofString "\\u").length = 2 := by decide +kernel
  have e3 : (Str.ofString "\\U").length = 2 := by decide +kernel
  walk_at "gs"
  refine wpAny_isTrue_BoolOp ?_
  walk_at "gs"
  refine if_beq (fun k1 => ?_) (fun k1 => ?_)
  · have k1 : c = lsQuote l := by simpa using k1
    walk_at "gs"
    rw [e92]
    walk_at "gs"
    refine fin (by assumption) ?_
    exact ⟨[92, c], by rw [lsChar, if_pos (.inl k1)], ⟨_, by walk_at "look"⟩, ex_str rfl⟩
  have k1 : c ≠ lsQuote l := by simpa using k1
  walk_at "gs"
  rw [e92]
  walk_at "gs"
  refine if_beq (fun k2 => ?_) (fun k2 => ?_)
  · have k2 : c = 92 := by simpa using k2
    walk_at "gs"
    refine fin (by assumption) ?_
    exact ⟨[92, c], by rw [lsChar, if_pos (.inr k2)], ⟨_, by walk_at "look"⟩, ex_str rfl⟩
  have k2 : c ≠ 92 := by simpa using k2
  walk_at "gs"
  refine if_dec (fun k3 => ?_) (fun k3 => ?_)
  · have k3 : c ∈ [10, 13, 9] := k3
    walk_at "gs"
    have kk : ∃ (j r : Nat), Txt.find (Str.ofString "\n\t\r") ⟨#[c]⟩ = (j : Int) ∧ j < 3 ∧ (Str.ofString "ntr").cps.getD j 0 = r ∧ lsChar plain (lsQuote l) c = [92, r] := by
      have k4 : c = 10 ∨ c = 13 ∨ c = 9 := by simpa using k3
      rcases k4 with rfl | rfl | rfl
      · exact ⟨0, 110, by decide +kernel, by decide, by decide +kernel, by rw [lsChar, if_neg (by simp [k1]), if_pos k3]; rfl⟩
      · exact ⟨2, 114, by decide +kernel, by decide, by decide +kernel, by rw [lsChar, if_neg (by simp [k1]), if_pos k3]; rfl⟩
      · exact ⟨1, 116, by decide +kernel, by decide, by decide +kernel, by rw [lsChar, if_neg (by simp [k1]), if_pos k3]; rfl⟩
    obtain ⟨j, r, f1, f2, f3, f4⟩ := kk
    have e5 : (Str.ofString "ntr").length = 3 := by decide +kernel
    rw [f1]
    refine r_itemS (by assumption) (by omega) (by omega) (by omega) ?_
    intro _ _ _
    walk_at "gs"
    refine fin (by assumption) ?_
    exact ⟨[92, r], f4, ⟨_, by walk_at "look"⟩, ex_str (by rw [← f3]; rfl)⟩
  have k3 : c ∉ [10, 13, 9] := k3
  walk_at "gs"
  refine cutI (by assumption) (fun b => b = decide ((32 ≤ c ∧ c < 127) ∨ (c ∈ [233, 20013, 128512] ∧ plain = false))) (wpAny_isTrue_BoolOp ?_) ?_
  · walk_at "gs"
    refine if_dec (fun k5 => ?_) (fun k5 => ?_)
    · walk_at "gs"
      refine test_last ?_
      walk_at "gs"
      refine if_dec (fun k6 => ?_) (fun k6 => ?_)
      · walk_at "gs"
        exact ⟨(decide_eq_true (.inl ⟨by omega, by omega⟩)).symm, by assumption⟩
      · walk_at "gs"
        refine wpAny_isTrue_BoolOp ?_
        walk_at "gs"
        refine if_dec (fun k7 => ?_) (fun k7 => ?_)
        · have k7 : c ∈ [233, 20013, 128512] := k7
          walk_at "gs"
          refine if_bool (fun k8 => ?_) (fun k8 => ?_)
          · walk_at "gs"
            exact ⟨(decide_eq_true (.inr ⟨k7, by simpa using k8⟩)).symm, by assumption⟩
          · walk_at "gs"
            exact ⟨(decide_eq_false (fun h => h.elim (fun h => by omega) (fun h => by simp [h.2] at k8))).symm, by assumption⟩
        · have k7 : c ∉ [233, 20013, 128512] := k7
          walk_at "gs"
          exact ⟨(decide_eq_false (fun h => h.elim (fun h => by omega) (fun h => k7 h.1))).symm, by assumption⟩
    · walk_at "gs"
      refine wpAny_isTrue_BoolOp ?_
      walk_at "gs"
      refine if_dec (fun k7 => ?_) (fun k7 => ?_)
      · have k7 : c ∈ [233, 20013, 128512] := k7
        walk_at "gs"
        refine if_bool (fun k8 => ?_) (fun k8 => ?_)
        · walk_at "gs"
          exact ⟨(decide_eq_true (.inr ⟨k7, by simpa using k8⟩)).symm, by assumption⟩
        · walk_at "gs"
          exact ⟨(decide_eq_false (fun h => h.elim (fun h => by omega) (fun h => by simp [h.2] at k8))).symm, by assumption⟩
      · have k7 : c ∉ [233, 20013, 128512] := k7
        walk_at "gs"
        exact ⟨(decide_eq_false (fun h => h.elim (fun h => by omega) (fun h => k7 h.1))).symm, by assumption⟩
  rintro b s9 hb I9
  subst hb
  refine if_dec (fun k4 => ?_) (fun k4 => ?_)
  · walk_at "gs"
    refine fin (by assumption) ?_
    exact ⟨[c], by rw [lsChar, if_neg (by simp [k1, k2]), if_neg k3, if_pos k4], ⟨_, by walk_at "look"⟩, ex_str rfl⟩
  walk_at "gs"
  refine if_dec (fun k5 => ?_) (fun k5 => ?_)
  · walk_at "gs"
    refine fin (by assumption) ?_
    exact ⟨_, by rw [lsChar, if_neg (by simp [k1, k2]), if_neg k3, if_neg k4, if_pos (by omega)], ⟨_, by walk_at "look"⟩, ex_str (by rw [← strOf_append]; rfl)⟩
  walk_at "gs"
  with_reducible refine if_dec (fun k6 => ?_) (fun k6 => ?_)
  · walk_at "gs"
    refine fin (by assumption) ?_
    exact ⟨_, by rw [lsChar, if_neg (by simp [k1, k2]), if_neg k3, if_neg k4, if_neg (by omega), if_pos (by omega)], ⟨_, by walk_at "look"⟩, ex_str (by rw [← strOf_append]; rfl)⟩
  walk_at "gs"
  refine fin (by assumption) ?_
  exact ⟨_, by rw [lsChar, if_neg (by simp [k1, k2]), if_neg k3, if_neg k4, if_neg (by omega), if_neg (by omega)], ⟨_, by walk_at "look"⟩, ex_str (by rw [← strOf_append]; rfl)⟩
-- part B5
mutual
noncomputable def lawShown (plain : Bool) : PyData → PySem.Str
  | .none => Str.ofString "None"
  | .bool b => if b then Str.ofString "True" else Str.ofString "False"
  | .int i => (if i < 0 then Str.ofString "-" else Str.ofString "") ++ strOf (figs i.natAbs 10 1)
  | .str x => strOf (lsText plain x.cps.toList)
  | .list xs => Str.ofString "[" ++ Txt.join (Str.ofString ", ") (lawShownAll plain xs) ++ Str.ofString "]"
  | .tuple xs => Str.ofString "(" ++ (lawShownAll plain xs).headD (Str.ofString "") ++ Str.ofString ",)"
  | .dict _ => Str.ofString ""
noncomputable def lawShownAll (plain : Bool) : List PyData → List PySem.Str
  | [] => []
  | x :: xs => lawShown plain x :: lawShownAll plain xs
end
noncomputable def ShownOk (plain : Bool) (k : Nat) (d : PyData) : Prop :=
  ∀ (w : World) (A : Around) (E : Value → Shared → Prop) (mg mb : PySem.Str → Option Value) (s : Shared) (v : Value) (as : List Addr), Glo (hd.heap_39 w.params) mg mb s.heap → Rm A (k + 2) (3 * k + 11) → Reads s.heap v d as →
    wpAny (model PySem.Challenge.rw_kp0026_09.prog w) A (call (.ref 132) [v, .bool plain]) (fun v s' => (∃ t', v = .str (lawShown plain d) t') ∧ Keeps s s') E s
theorem shownOk_str {plain : Bool} {l : List Nat} (hl : l.length ≤ 64) (hc : ∀ c ∈ l, c < 2 ^ 40) : ShownOk plain 0 (.str (strOf l)) := by
  intro w A E mg mb s v as G R r
  cases r
  rename_i t
  have := shown_str (E := E) G R l t plain hl hc
  have e : lawShown plain (.str (strOf l)) = strOf (lsText plain l) := by simp only [lawShown, strOf]
  rw [e]; exact this

-- MACROS
local macro_rules | `(tactic| walk_at "ext") => `(tactic| ((with_reducible show wpAny _ _ (call (Value.ref 127) _) _ _ _); (with_reducible refine r_call (by assumption) (figs_spec10 (Glo.keeps (by assumption) (Fr.keep (In.fr (by assumption)))) (Rm.less (Rm.deeper (by assumption))) _ _ _ _ (by assumption)) ?_); (rintro _ _ ⟨_, hv⟩ _ _; subst hv)))
-- END MACROS
set_option maxRecDepth 100000 in
set_option maxHeartbeats 4000000 in
theorem shownOk_none {plain : Bool} : ShownOk plain 0 .none := by
  intro w A E mg mb s v as G R r
  cases r
  refine' call_fnC (binds := [(Str.ofString "value", .none), (Str.ofString "plain", .bool plain)]) (fun v _ => ∃ t', v = .str (lawShown plain .none) t') G (R.less (d' := 0) (u' := 0)).depth ?ho ?hcd ?hb ?hl ?c1 ?c2 ?c3 ?_
  case ho => k_is
  case hcd => k_is
  case hb => exact rfl
  case hl => rfl
  case c1 => rfl
  case c2 => rfl
  case c3 => rfl
  intro s₁ N I hcell
  walk_at "gs"
  refine wpAny_isTrue_BoolOp ?_
  walk_at "gs"
  refine wpAny_IfExp ?_
  walk_at "gs"
  exact ⟨⟨_, rfl⟩, _, _, _, by assumption⟩
set_option maxRecDepth 100000 in
set_option maxHeartbeats 4000000 in
theorem shownOk_bool {plain b : Bool} : ShownOk plain 0 (.bool b) := by
  intro w A E mg mb s v as G R r
  cases r
  refine' call_fnC (binds := [(Str.ofString "value", .bool b), (Str.ofString "plain", .bool plain)]) (fun v _ => ∃ t', v = .str (lawShown plain (.bool b)) t') G (R.less (d' := 0) (u' := 0)).depth ?ho ?hcd ?hb ?hl ?c1 ?c2 ?c3 ?_
  case ho => k_is
  case hcd => k_is
  case hb => exact rfl
  case hl => rfl
  case c1 => rfl
  case c2 => rfl
  case c3 => rfl
  intro s₁ N I hcell
  walk_at "gs"
  refine wpAny_isTrue_BoolOp ?_
  walk_at "gs"
  cases b with
  | true =>
    refine if_bool (fun h => ?_) (fun h => ?_)
    rotate_left
    · exact absurd h (by decide)
    walk_at "gs"
    refine wpAny_IfExp ?_
    walk_at "gs"
    refine wpAny_IfExp ?_
    walk_at "gs"
    exact ⟨⟨_, rfl⟩, _, _, _, by assumption⟩
  | false =>
    refine if_bool (fun h => ?_) (fun h => ?_)
    · exact absurd h (by decide)
    walk_at "gs"
    refine wpAny_IfExp ?_
    walk_at "gs"
    refine wpAny_IfExp ?_
    walk_at "gs"
    exact ⟨⟨_, rfl⟩, _, _, _, by assumption⟩
set_option maxRecDepth 100000 in
set_option maxHeartbeats 4000000 in
theorem shownOk_int {plain : Bool} {i : Int} (hi : i.natAbs < 2 ^ 40) : ShownOk plain 0 (.int i) := by
  intro w A E mg mb s v as G R r
  cases r
  rename_i t
  refine' call_fnC (binds := [(Str.ofString "value", .int i t), (Str.ofString "plain", .bool plain)]) (fun v _ => ∃ t', v = .str (lawShown plain (.int i)) t') G (R.less (d' := 0) (u' := 0)).depth ?ho ?hcd ?hb ?hl ?c1 ?c2 ?c3 ?_
  case ho => k_is
  case hcd => k_is
  case hb => exact rfl
  case hl => rfl
  case c1 => rfl
  case c2 => rfl
  case c3 => rfl
  intro s₁ N I hcell
  walk_at "gs"
  refine wpAny_isTrue_BoolOp ?_
  walk_at "gs"
  refine cutI (by assumption) (fun v => ∃ t, v = .str (if i < 0 then Str.ofString "-" else Str.ofString "") t) (wpAny_IfExp ?_) ?_
  · walk_at "gs"
    refine if_dec (fun h => ?_) (fun h => ?_)
    · walk_at "gs"
      exact ⟨⟨_, by rw [if_pos h]⟩, by assumption⟩
    · walk_at "gs"
      exact ⟨⟨_, by rw [if_neg h]⟩, by assumption⟩
  rintro _ s2 ⟨tq, rfl⟩ I2
  walk_at "gs"
  refine r_addS (by assumption) ?_ (by
    have := figs_length i.natAbs 10 1
    rw [strOf_length]
    have h2 : (if i < 0 then Str.ofString "-" else Str.ofString "").length ≤ 1 := by split <;> decide +kernel
    show _ ≤ 16777216; omega)
  intro t9 s9 I9
  walk_at "gs"
  exact ⟨⟨t9, by simp only [lawShown]⟩, _, _, _, by assumption⟩
-- part B6
set_option maxRecDepth 100000 in
set_option maxHeartbeats 4000000 in
theorem shownOk_tuple {plain : Bool} {k : Nat} {d : PyData} (hd : ShownOk plain k d) (hsz : (lawShown plain d).length ≤ 1000000) : ShownOk plain (k + 1) (.tuple [d]) := by
  intro w A E mg mb s v as G R r
  obtain ⟨a, o, ho, hc, vs, n, hdat, hrs⟩ : ∃ a o, s.heap.get? a = some o ∧ o.cls = .type "tuple" ∧ ∃ vs n, o.data = .seq vs n ∧ v = .ref a ∧ ReadsAll s.heap vs.toList [d] as := by
    cases r with
    | tuple h1 h2 h3 h4 => exact ⟨_, _, h1, h2, _, _, h3, rfl, h4⟩
  obtain ⟨rfl, hrs⟩ := hrs
  obtain ⟨v0, as0, hv0, hr0⟩ : ∃ v0 as0, vs.toList = [v0] ∧ Reads s.heap v0 d as0 := by
    generalize vs.toList = l at hrs
    cases hrs with
    | cons h1 h2 => cases h2; exact ⟨_, _, rfl, h1⟩
  have hvs : vs = [v0].toArray := by rw [← hv0]
  subst hvs
  have hT : KitAt a "tuple" s.heap := ⟨o, ho, hc⟩
  refine' call_fnC (binds := [(Str.ofString "value", .ref a), (Str.ofString "plain", .bool plain)]) (fun v _ => ∃ t', v = .str (lawShown plain (.tuple [d])) t') G (R.less (d' := 0) (u' := 0)).depth ?ho ?hcd ?hb ?hl ?c1 ?c2 ?c3 ?_
  case ho => k_is
  case hcd => k_is
  case hb => exact rfl
  case hl => rfl
  case c1 => rfl
  case c2 => rfl
  case c3 => rfl
  intro s₁ N I hcell
  obtain ⟨oc, hN, hdc⟩ := hcell (Str.ofString "plain") (s.heap.objs.size + 1) rfl
  replace hdc : oc.data = .cell (some (.bool plain)) := hdc
  walk_at "gs"
  refine wpAny_isTrue_BoolOp ?_
  walk_at "gs"
  refine r_isi G (by assumption) kitx_tuple ⟨o, Fr.keep (In.fr (by assumption)) _ _ ho, hc⟩ (kt_tuple_int _) (by intro h; cases h) ?_
  intro _ _
  walk_at "gs"
  refine r_isi G (by assumption) kitx_tuple ⟨o, Fr.keep (In.fr (by assumption)) _ _ ho, hc⟩ (kt_tuple_list _) (by intro h; cases h) ?_
  intro _ _
  walk_at "gs"
  refine r_isi G (by assumption) kitx_tuple ⟨o, Fr.keep (In.fr (by assumption)) _ _ ho, hc⟩ (kt_tuple_tuple _) (by intro h; cases h) ?_
  intro _ _
  walk_at "gs"
  refine item_tupleT (l := [v0]) (j := 0) (x := v0) ⟨o, Fr.keep (In.fr (by assumption)) _ _ ho, hc, n, hdat⟩ (by decide) (by decide) rfl rfl ?_ (by with_unfolding_all rfl)
  walk_at "gs"
  refine r_call (by assumption) (hd _ _ _ _ _ _ _ _ (G.keeps (Fr.keep (In.fr (by assumption)))) (Rm.less (Rm.deeper R)) (PyProof.Rows.Reads.keeps (Fr.keep (In.fr (by assumption))) hr0)) ?_
  rintro _ s9 ⟨t9, rfl⟩ _ I9
  have c1 : (Str.ofString "(").length = 1 := by decide +kernel
  have c2 : (Str.ofString ",)").length = 2 := by decide +kernel
  walk_at "gs"
  exact ⟨⟨_, rfl⟩, _, _, _, by assumption⟩
-- part B7
theorem readsAll_get {h : Heap} : ∀ {vs : List Value} {ds : List PyData} {as : List Addr} {i : Nat} {v : Value}, ReadsAll h vs ds as → vs[i]? = some v → ∃ d as', d ∈ ds ∧ ds[i]? = some d ∧ Reads h v d as'
  | v :: _, d :: _, _, 0, _, .cons (as := as) h1 _, e => by
    simp at e; subst e
    exact ⟨d, as, .head _, rfl, h1⟩
  | _ :: vs, _ :: ds, _, i + 1, v, .cons _ h2, e => by
    obtain ⟨d, as', h3, h4, h5⟩ := readsAll_get (i := i) h2 (by simpa using e)
    exact ⟨d, as', .tail _ h3, by simpa using h4, h5⟩
  | [], _, _, _, _, _, e => by simp at e
theorem readsAll_length {h : Heap} : ∀ {vs : List Value} {ds : List PyData} {as : List Addr}, ReadsAll h vs ds as → vs.length = ds.length
  | [], [], _, _ => rfl
  | _ :: _, _ :: _, _, .cons _ h2 => by simp [readsAll_length h2]
theorem lawShownAll_get {plain : Bool} : ∀ {ds : List PyData} {i : Nat} {d : PyData}, ds[i]? = some d → (lawShownAll plain ds)[i]? = some (lawShown plain d)
  | _ :: _, 0, _, e => by simp at e; subst e; simp [lawShownAll]
  | _ :: ds, i + 1, d, e => by simp [lawShownAll]; exact lawShownAll_get (by simpa using e)
  | [], _, _, e => by simp at e
theorem lawShownAll_length {plain : Bool} : ∀ ds : List PyData, (lawShownAll plain ds).length = ds.length
  | [] => by simp [lawShownAll]
  | _ :: ds => by simp [lawShownAll, lawShownAll_length ds]

theorem paired_texts {plain : Bool} {h : Heap} {xs : List PyData} : ∀ {vs : List Value} {ds : List PyData} {as : List Addr} {ys : List Value}, ReadsAll h vs ds as →
    Paired (fun v y => ∃ d as t, d ∈ xs ∧ Reads h v d as ∧ y = .str (lawShown plain d) t) vs ys → ∃ l, ys = strValues l ∧ l.map (·.1) = lawShownAll plain ds
  | [], [], _, _, _, .nil => ⟨[], rfl, by simp [lawShownAll]⟩
  | v :: vs, d :: ds, _, y :: ys, .cons h1 h2, .cons h3 h4 => by
    obtain ⟨d', as', t, _, h5, rfl⟩ := h3
    obtain ⟨l, h6, h7⟩ := paired_texts h2 h4
    have e := (Reads.unique h1 d' as' h5).1
    subst e
    exact ⟨(lawShown plain d, t) :: l, by rw [h6]; rfl, by simp [h7, lawShownAll]⟩

set_option maxRecDepth 100000 in
set_option maxHeartbeats 4000000 in
theorem shownOk_list {plain : Bool} {k : Nat} {xs : List PyData} (hd : ∀ d ∈ xs, ShownOk plain k d) (hn : xs.length ≤ 1000) (hj : JoinOk (Str.ofString ", ") (lawShownAll plain xs) = true) (hsz : (Txt.join (Str.ofString ", ") (lawShownAll plain xs)).length ≤ 1000000) : ShownOk plain (k + 1) (.list xs) := by
  intro w A E mg mb s v as G R r
  obtain ⟨a, o, ho, hc, vs, n, hdat, hrs⟩ : ∃ a o, s.heap.get? a = some o ∧ o.cls = .type "list" ∧ ∃ vs n, o.data = .seq vs n ∧ v = .ref a ∧ ∃ as, ReadsAll s.heap vs.toList xs as := by
    cases r with
    | list h1 h2 h3 h4 => exact ⟨_, _, h1, h2, _, _, h3, rfl, _, h4⟩
  obtain ⟨rfl, as', hrs⟩ := hrs
  refine' call_fnC (binds := [(Str.ofString "value", .ref a), (Str.ofString "plain", .bool plain)]) (fun v _ => ∃ t', v = .str (lawShown plain (.list xs)) t') G (R.less (d' := 0) (u' := 0)).depth ?ho ?hcd ?hb ?hl ?c1 ?c2 ?c3 ?_
  case ho => k_is
  case hcd => k_is
  case hb => exact rfl
  case hl => rfl
  case c1 => rfl
  case c2 => rfl
  case c3 => rfl
  intro s₁ N I hcell
  obtain ⟨oc, hN, hdc⟩ := hcell (Str.ofString "plain") (s.heap.objs.size + 1) rfl
  replace hdc : oc.data = .cell (some (.bool plain)) := hdc
  walk_at "gs"
  refine wpAny_isTrue_BoolOp ?_
  walk_at "gs"
  refine r_isi G (by assumption) kitx_list ⟨o, Fr.keep (In.fr (by assumption)) _ _ ho, hc⟩ (kt_list_int _) (by intro h; cases h) ?_
  intro _ _
  walk_at "gs"
  refine r_isi G (by assumption) kitx_list ⟨o, Fr.keep (In.fr (by assumption)) _ _ ho, hc⟩ (kt_list_list _) (by intro h; cases h) ?_
  intro _ _
  walk_at "gs"
  refine wpAny_ListComp_free (p := fun _ => true) (F := fun v y => ∃ d as t, d ∈ xs ∧ Reads s.heap v d as ∧ y = .str (lawShown plain d) t) (cl := [(Str.ofString "plain", s.heap.objs.size + 1)]) (by with_unfolding_all rfl) (by decide) rfl (by decide) rfl ?_ (by intro _; with_unfolding_all rfl)
  walk_at "gs"
  rename_i s2 I2
  have hIL : s2.heap.IsList a vs := ⟨o, I2.fr.keep _ _ ho, hc, n, hdat⟩
  refine wpAny_pyIter_list hIL ?_
  have hfresh : s.heap.get? s2.heap.objs.size = none := by
    cases e : s.heap.get? s2.heap.objs.size with
    | none => rfl
    | some o => exact absurd (Heap.lt_size (I2.fr.keep _ _ e)) (Nat.lt_irrefl _)
  have hane : a ≠ s2.heap.objs.size := Nat.ne_of_lt (Heap.lt_size (I2.fr.keep _ _ ho))
  have hlen := readsAll_length hrs
  have hup : ∀ b o, s2.heap.get? b = some o → (s2.heap.push { cls := .type "list_iterator", data := .fields #[.ref a, .int 0 0] }).get? b = some o := fun b o e => Heap.get?_push_of_some _ e
  refine ⟨s2.heap.objs.size, [s2.heap.objs.size, a], [s2.heap.objs.size], vs.size, _, _, rfl, Walks.list R.deeper.handled _ _ hane vs, ?_, ⟨⟨_, Heap.get?_push_size _ rfl, rfl, rfl⟩, hIL.at (hup a)⟩, ?_, ?_, ?_⟩
  · have : vs.size = xs.length := by rw [← hlen]; simp
    show _ ≤ 16777216; omega
  · intro b hb
    have h1 := Heap.lt_size (I2.fr.keep _ _ ho)
    show b < (s2.heap.push _).objs.size
    rw [Heap.size_push]
    simp only [List.mem_cons, List.not_mem_nil, or_false] at hb
    rcases hb with rfl | rfl
    · exact Nat.lt_succ_self _
    · exact Nat.lt_succ_of_lt h1
  · constructor
    · intro C i v s3 m3 E' hC hv hns hm hk ht
      exact wpAny_pure ⟨rfl, keeps_refl _⟩
    · intro C i v s3 m3 E' hC hv _ hns hm hk ht
      have hk3 : ∀ b o, s.heap.get? b = some o → s3.heap.get? b = some o := fun b ob e => hk b ob (fun hb => by
        rw [List.mem_singleton.mp hb, hfresh] at e; cases e) (hup _ _ (I2.fr.keep _ _ e))
      have G3 := G.keeps hk3
      have hv' : vs.toList[i]? = some v := by simpa using hv
      obtain ⟨d, as9, hdm, _, hrd⟩ := readsAll_get hrs hv'
      have hcl : s3.heap.get? (s.heap.objs.size + 1) = some oc := hk _ _ (fun hb => by
        have h1 := Heap.lt_size (I2.get hN)
        rw [List.mem_singleton.mp hb] at h1; exact Nat.lt_irrefl _ h1) (hup _ _ (I2.get hN))
      refine Call_ (Name_function_global rfl rfl (loadGlobal_global (mg := mg) G3.g (mg_of G3.X G3.g (by k_is)) ?_) (by decide)) (by with_unfolding_all rfl)
      refine r_cwf G3 (by k_is) (wpAny_items_cons (wpAny_Name (wpAny_loadName_local rfl rfl hns hm ?_) (by decide)) (by with_unfolding_all rfl)) (by with_unfolding_all rfl)
      refine wpAny_items_cons (wpAny_Name (wpAny_loadName_cell rfl (by with_unfolding_all rfl) (by with_unfolding_all rfl) ⟨oc, hcl, hdc⟩ ?_) (by decide)) (by with_unfolding_all rfl)
      refine wpAny_items_nil ⟨fun _ _ e => e, ?_⟩
      refine wpAny_mono (hd d hdm _ _ _ _ _ _ _ _ G3 (Rm.less R.deeper) (PyProof.Rows.Reads.keeps hk3 hrd)) (fun y s4 q => ?_) fun _ _ q => q
      obtain ⟨⟨t9, rfl⟩, q2⟩ := q
      exact ⟨⟨d, as9, t9, hdm, hrd, rfl⟩, q2⟩
  intro D h' tk ys vs' hD hIs hPl hvl hvp hpair hkk
  have Ip : In s.heap _ _ N (Zx.of s) { s2 with heap := s2.heap.push { cls := .type "list_iterator", data := .fields #[.ref a, .int 0 0] } } := I2.keeps ⟨_, _, rfl, hup⟩
  have I9 := Ip.iter (a := s2.heap.objs.size) (h' := h') (tk := tk) (fun e => by
    have := I2.fr.ns.lt; rw [← e] at this; exact Nat.lt_irrefl _ this) hfresh I2.fresh rfl (fun b o hb e => hkk b o (fun hm => hb (List.mem_singleton.mp hm)) e)
  have hvs : vs' = vs.toList := by
    apply List.ext_getElem?
    intro i
    by_cases hi : i < vs'.length
    · have e1 : vs'[i]? = some vs'[i] := by simp [hi]
      have e2 := hvp i _ e1
      rw [e1]; simpa using e2.symm
    · rw [List.getElem?_eq_none (by omega), List.getElem?_eq_none (by simp; omega)]
  rw [hvs, List.filter_eq_self.mpr (fun _ _ => rfl)] at hpair
  obtain ⟨l, hl1, hl2⟩ := paired_texts hrs hpair
  have hys : ys = (strValues l).toArray := by rw [← hl1]
  rw [hys] at hIs
  refine wpAny_items_nil ?_
  dsimp only [List.cons_append, List.nil_append]
  refine SC.join (l := l) (texts := lawShownAll plain xs) hIs hl2 hj ?_
  intro t9 tk9
  have I10 := I9.toks tk9
  have c1 : (Str.ofString "[").length = 1 := by decide +kernel
  have c2 : (Str.ofString "]").length = 1 := by decide +kernel
  walk_at "gs"
  rw [lawShown]
  exact ⟨⟨_, rfl⟩, _, _, _, by assumption⟩
-- part B8
/-- the room that repr asks -/
structure Gd (A : Around) : Prop where
  guards : A.guards = some []
set_option maxRecDepth 100000 in
set_option maxHeartbeats 4000000 in
theorem conv_none {w : World} {A : Around} {E : Value → Shared → Prop} {mg mb : PySem.Str → Option Value} {s : Shared} (G : Glo (hd.heap_39 w.params) mg mb s.heap) (R : Rm A 1 8) (f v : Value) :
    wpAny (model PySem.Challenge.rw_kp0026_09.prog w) A (call (.ref 85) [f, v, .none]) (fun v' s' => v' = v ∧ Keeps s s') E s := by
  refine' call_fn (binds := [(Str.ofString "self", f), (Str.ofString "value", v), (Str.ofString "conversion", .none)]) (fun v' _ => v' = v) G (R.less (d' := 0) (u' := 0)).depth ?ho ?hcd ?hb ?hc ?hl ?c1 ?c2 ?c3 ?_
  case ho => k_is
  case hcd => k_is
  case hb => exact BindsTo.of_eq rfl
  case hc => decide
  case hl => exact locs rfl
  case c1 => rfl
  case c2 => rfl
  case c3 => rfl
  intro s₁ I
  walk_at "gs"
  exact ⟨rfl, _, _, _, by assumption⟩
set_option maxRecDepth 100000 in
set_option maxHeartbeats 4000000 in
theorem conv_s {w : World} {A : Around} {E : Value → Shared → Prop} {mg mb : PySem.Str → Option Value} {s : Shared} (G : Glo (hd.heap_39 w.params) mg mb s.heap) (R : Rm A 1 100) (hg : A.guards = some []) (f v : Value) (t : Tok) {d : PyData} {as : List Addr}
    (r : Reads s.heap v d as) (hs : d.showable = true) (hsm : d.hasDict = false) (hdp : d.depth ≤ 8) (hsz : d.shown.length ≤ 16777216) :
    wpAny (model PySem.Challenge.rw_kp0026_09.prog w) A (call (.ref 85) [f, v, .str (Str.ofString "s") t]) (fun v' s' => (∃ t', v' = .str (strD d) t') ∧ Keeps s s') E s := by
  refine' call_fn (binds := [(Str.ofString "self", f), (Str.ofString "value", v), (Str.ofString "conversion", .str (Str.ofString "s") t)]) (fun v' _ => ∃ t', v' = .str (strD d) t') G (R.less (d' := 0) (u' := 0)).depth ?ho ?hcd ?hb ?hc ?hl ?c1 ?c2 ?c3 ?_
  case ho => k_is
  case hcd => k_is
  case hb => exact BindsTo.of_eq rfl
  case hc => decide
  case hl => exact locs rfl
  case c1 => rfl
  case c2 => rfl
  case c3 => rfl
  intro s₁ I
  walk_at "gs"
  refine if_beq (fun _ => ?_) (fun h => absurd rfl h)
  walk_at "gs"
  cases d with
  | str x =>
    cases r
    refine P.str_of_str ?_
    walk_at "gs"
    exact ⟨⟨_, rfl⟩, _, _, _, by assumption⟩
  | none =>
    refine r_strOf (PyProof.Rows.Reads.keeps (Fr.keep (In.fr (by assumption))) r) hs hsm hg (by have := R.units; show A.units + 3 + 3 + _ < _; omega) hsz (by intro x h; cases h) ?_
    intro t9 s9 k9
    have I9 := In.keeps (by assumption) k9
    walk_at "gs"
    exact ⟨⟨_, rfl⟩, _, _, _, by assumption⟩
  | bool b =>
    refine r_strOf (PyProof.Rows.Reads.keeps (Fr.keep (In.fr (by assumption))) r) hs hsm hg (by have := R.units; show A.units + 3 + 3 + _ < _; omega) hsz (by intro x h; cases h) ?_
    intro t9 s9 k9
    have I9 := In.keeps (by assumption) k9
    walk_at "gs"
    exact ⟨⟨_, rfl⟩, _, _, _, by assumption⟩
  | int i =>
    refine r_strOf (PyProof.Rows.Reads.keeps (Fr.keep (In.fr (by assumption))) r) hs hsm hg (by have := R.units; show A.units + 3 + 3 + _ < _; omega) hsz (by intro x h; cases h) ?_
    intro t9 s9 k9
    have I9 := In.keeps (by assumption) k9
    walk_at "gs"
    exact ⟨⟨_, rfl⟩, _, _, _, by assumption⟩
  | list xs =>
    refine r_strOf (PyProof.Rows.Reads.keeps (Fr.keep (In.fr (by assumption))) r) hs hsm hg (by have := R.units; show A.units + 3 + 3 + _ < _; omega) hsz (by intro x h; cases h) ?_
    intro t9 s9 k9
    have I9 := In.keeps (by assumption) k9
    walk_at "gs"
    exact ⟨⟨_, rfl⟩, _, _, _, by assumption⟩
  | tuple xs =>
    refine r_strOf (PyProof.Rows.Reads.keeps (Fr.keep (In.fr (by assumption))) r) hs hsm hg (by have := R.units; show A.units + 3 + 3 + _ < _; omega) hsz (by intro x h; cases h) ?_
    intro t9 s9 k9
    have I9 := In.keeps (by assumption) k9
    walk_at "gs"
    exact ⟨⟨_, rfl⟩, _, _, _, by assumption⟩
  | dict kvs => cases hsm
set_option maxRecDepth 100000 in
set_option maxHeartbeats 4000000 in
theorem conv_r {w : World} {A : Around} {E : Value → Shared → Prop} {mg mb : PySem.Str → Option Value} {s : Shared} (G : Glo (hd.heap_39 w.params) mg mb s.heap) (R : Rm A 1 100) (hg : A.guards = some []) (f v : Value) (t : Tok) {d : PyData} {as : List Addr}
    (r : Reads s.heap v d as) (hs : d.showable = true) (hsm : d.hasDict = false) (hdp : d.depth ≤ 8) (hsz : 10 * d.shown.length ≤ 16777216) :
    wpAny (model PySem.Challenge.rw_kp0026_09.prog w) A (call (.ref 85) [f, v, .str (Str.ofString "r") t]) (fun v' s' => (∃ t', v' = .str (d.shown) t') ∧ Keeps s s') E s := by
  refine' call_fn (binds := [(Str.ofString "self", f), (Str.ofString "value", v), (Str.ofString "conversion", .str (Str.ofString "r") t)]) (fun v' _ => ∃ t', v' = .str (d.shown) t') G (R.less (d' := 0) (u' := 0)).depth ?ho ?hcd ?hb ?hc ?hl ?c1 ?c2 ?c3 ?_
  case ho => k_is
  case hcd => k_is
  case hb => exact BindsTo.of_eq rfl
  case hc => decide
  case hl => exact locs rfl
  case c1 => rfl
  case c2 => rfl
  case c3 => rfl
  intro s₁ I
  walk_at "gs"
  refine if_beq (fun h => absurd h (by decide +kernel)) (fun _ => ?_)
  walk_at "gs"
  refine if_beq (fun _ => ?_) (fun h => absurd rfl h)
  walk_at "gs"
  refine r_repr (PyProof.Rows.Reads.keeps (Fr.keep (In.fr (by assumption))) r) hs hsm hg (by have := R.units; show A.units + 3 + 1 + _ < _; omega) (by omega) ?_
  intro t9 s9 k9
  have I9 := In.keeps (by assumption) k9
  walk_at "gs"
  exact ⟨⟨_, rfl⟩, _, _, _, by assumption⟩
set_option maxRecDepth 100000 in
set_option maxHeartbeats 4000000 in
theorem conv_a {w : World} {A : Around} {E : Value → Shared → Prop} {mg mb : PySem.Str → Option Value} {s : Shared} (G : Glo (hd.heap_39 w.params) mg mb s.heap) (R : Rm A 1 100) (hg : A.guards = some []) (f v : Value) (t : Tok) {d : PyData} {as : List Addr}
    (r : Reads s.heap v d as) (hs : d.showable = true) (hsm : d.hasDict = false) (hdp : d.depth ≤ 8) (hsz : 10 * d.shown.length ≤ 16777216) (hy : (asciiText d.shown).length ≤ 16777216) :
    wpAny (model PySem.Challenge.rw_kp0026_09.prog w) A (call (.ref 85) [f, v, .str (Str.ofString "a") t]) (fun v' s' => (∃ t', v' = .str (asciiText d.shown) t') ∧ Keeps s s') E s := by
  refine' call_fn (binds := [(Str.ofString "self", f), (Str.ofString "value", v), (Str.ofString "conversion", .str (Str.ofString "a") t)]) (fun v' _ => ∃ t', v' = .str (asciiText d.shown) t') G (R.less (d' := 0) (u' := 0)).depth ?ho ?hcd ?hb ?hc ?hl ?c1 ?c2 ?c3 ?_
  case ho => k_is
  case hcd => k_is
  case hb => exact BindsTo.of_eq rfl
  case hc => decide
  case hl => exact locs rfl
  case c1 => rfl
  case c2 => rfl
  case c3 => rfl
  intro s₁ I
  walk_at "gs"
  refine if_beq (fun h => absurd h (by decide +kernel)) (fun _ => ?_)
  walk_at "gs"
  refine if_beq (fun h => absurd h (by decide +kernel)) (fun _ => ?_)
  walk_at "gs"
  refine if_beq (fun _ => ?_) (fun h => absurd rfl h)
  walk_at "gs"
  refine r_ascii (PyProof.Rows.Reads.keeps (Fr.keep (In.fr (by assumption))) r) hs hsm hg (by have := R.units; show A.units + 3 + 1 + _ < _; omega) hsz hy ?_
  intro t9 s9 k9
  have I9 := In.keeps (by assumption) k9
  walk_at "gs"
  exact ⟨⟨_, rfl⟩, _, _, _, by assumption⟩
-- part B9
theorem field_zero {prog : Program} {w : World} {A : Around} {E : Value → Shared → Prop} {s : Shared} {id : String} {a : Array Value} {byName : PySem.Str → Sem Value} {v : Value} {Q : Value × Builtin.Str.Numbering → Shared → Prop} (ha : a[0]? = some v)
    (h : Q (v, .manual) s) : wpAny (model prog w) A (Builtin.Str.fieldObject id (some a) byName [48] .unset) Q E s := by
  unfold Builtin.Str.fieldObject
  refine wpAny_bind (wpAny_of_eq (a := some 0) rfl ?_)
  refine wpAny_bind (wpAny_of_eq (a := (some 0, .manual)) rfl ?_)
  simp only [ha, pure_bind]
  rw [KPc.range_list]
  exact wpAny_bind (wpAny_pure (wpAny_pure h))
set_option maxRecDepth 100000 in
theorem fmt_zero {prog : Program} {w : World} {A : Around} {E : Value → Shared → Prop} {s : Shared} {y : PySem.Str} {t u : Tok} {Q : Value → Shared → Prop} (hy : y.length ≤ 1000)
    (h : ∀ t' k, Q (.str (Str.ofString "Unknown conversion specifier " ++ y) t') { s with toks := k }) :
    wpAny (model prog w) A (call (.builtin "str.format") [.str (Str.ofString "Unknown conversion specifier {0!s}") t, .str y u]) Q E s := by
  refine' KFm.call_k ?kfmF ?kfmg ?kfmm h
  case kfmF => kfm_eq
  case kfmg => exact KFm.args_2 _ _
  case kfmm =>
    apply KPc.meets_of
    intro _ _ _ _ _ _ _
    unfold Builtin.«str.format»
    refine wpAny_bind (wpAny_of_eq (a := (_, _, _)) rfl ?_)
    refine wpAny_bind ?_
    unfold Builtin.Str.buildString
    refine wpAny_bind ?_
    rw [KPc.range_list]
    refine KFm.start ?_
    intro _ _
    refine KPc.turn ?_
    kpc_if
    kpc_check
    refine wpAny_bind (field_zero (v := .str y u) (by rfl) ?_)
    refine wpAny_bind (wpAny_holding (wpAny_of_eq (a := .str y u) rfl ?_))
    kpc_if
    refine wpAny_bind (wpAny_pure ?_)
    refine wpAny_bind (wpAny_holding (wpAny_of_eq (KFm.formatOf_str _ _) ?_))
    refine wpAny_bind (wpAny_of_eq (a := some _) rfl ?_)
    refine wpAny_pure ?_
    refine KFm.after_field (K := 1000) (by kpc_g) (by kpc_text) (by kpc_obj) hy (by kpc_obj) (by kfm_cat2) (by kfm_rest) ?_
    intro _ _
    refine KPc.turn ?_
    kpc_if
    refine wpAny_pure ?_
    refine wpAny_pure ?_
    refine KPc.finish_ok (by kpc_g) (by decide +kernel) (by first | kpc_text | exact rfl) ?_
    first | (with_reducible assumption) | assumption
theorem boot_VE : bootBuiltins (Str.ofString "ValueError") = some (.type "ValueError") := PyProof.Rows.Boot.«ValueError»
set_option maxRecDepth 100000 in
set_option maxHeartbeats 4000000 in
theorem conv_raise {w : World} {A : Around} {mg mb : PySem.Str → Option Value} {s : Shared} {outer : List Env} (G : Glo (hd.heap_39 w.params) mg mb s.heap) (R : Rm A 1 100) (K : Stk A outer s.heap) (f v : Value) (y : PySem.Str) (t : Tok)
    (hy : y.length ≤ 100) (h1 : y ≠ Str.ofString "s") (h2 : y ≠ Str.ofString "r") (h3 : y ≠ Str.ofString "a") :
    wpAny (model PySem.Challenge.rw_kp0026_09.prog w) A (call (.ref 85) [f, v, .str y t]) (fun _ _ => False) (fun e' s' => ∃ e u, e' = .ref e ∧ Fly s.heap outer e (.type "ValueError") [.str (Str.ofString "Unknown conversion specifier " ++ y) u] s s') s := by
  refine' wpAny_mono (call_fnE (binds := [(Str.ofString "self", f), (Str.ofString "value", v), (Str.ofString "conversion", .str y t)]) (fun _ _ => False) (fun e' s' => ∃ e u, e' = .ref e ∧ Fly s.heap outer e (.type "ValueError") [.str (Str.ofString "Unknown conversion specifier " ++ y) u] s s') G (R.less (d' := 0) (u' := 0)).depth ?ho ?hcd ?hb ?hc ?hl ?c1 ?c2 ?c3 ?_) (fun _ _ x => x.1.elim) (fun _ _ x => x)
  case ho => k_is
  case hcd => k_is
  case hb => exact BindsTo.of_eq rfl
  case hc => decide
  case hl => exact locs rfl
  case c1 => rfl
  case c2 => rfl
  case c3 => rfl
  intro s₁ I
  walk_at "gs"
  refine if_beq (fun h => absurd h h1) (fun _ => ?_)
  walk_at "gs"
  refine if_beq (fun h => absurd h h2) (fun _ => ?_)
  walk_at "gs"
  refine if_beq (fun h => absurd h h3) (fun _ => ?_)
  walk_at "gs"
  refine x_cons (Raise_madeB PySem.F.excCall_ValueError PySem.F.excRaise_ValueError R.handled ?_)
  refine r_builtin G (by assumption) (by k_is) boot_VE ⟨rfl, ?_⟩
  refine wpAny_items_cons ?_ (by with_unfolding_all rfl)
  walk_at "gs"
  with_reducible refine KFm.method ?_
  walk_at "gs"
  refine fmt_zero (by omega) (fun t9 k9 => ?_)
  have I9 := In.toks (by assumption) k9
  walk_at "gs"
  refine ⟨(by show 1 ≤ 16777216; omega), fun h' e hm => ?_⟩
  exact leave_made K I9 (Heap.MadeExc.of hm) (fun s' hs => ⟨e, t9, rfl, hs⟩)
-- part B10
structure ValOk (d : PyData) : Prop where
  showable : d.showable = true
  noDict : d.hasDict = false
  depth : d.depth ≤ 8
  size : 10 * d.shown.length ≤ 16777216
  sizeA : (asciiText d.shown).length ≤ 16777216
  shown : lawShown false d = d.shown
  ascii : lawShown true d = asciiText d.shown
  ok : ∀ plain, ShownOk plain 2 d
  lay : d.canLay0 = true
theorem str_ext {x y : PySem.Str} (h : x.cps.toList = y.cps.toList) : x = y := by
  cases x; cases y; exact congrArg _ (Array.ext' h)
theorem app_toList (x y : PySem.Str) : (x ++ y).cps.toList = x.cps.toList ++ y.cps.toList := by
  show (x.cps ++ y.cps).toList = _
  simp
theorem str_len (x : PySem.Str) : x.length = x.cps.toList.length := by show x.cps.size = _; simp
theorem ascii_app (x y : PySem.Str) : asciiText (x ++ y) = asciiText x ++ asciiText y := str_ext (by rw [asciiText_toList, app_toList, app_toList, asciiText_toList, asciiText_toList, List.flatMap_append])
theorem foldl_app (f : Nat → List Nat) : ∀ (l : List Nat) (acc : Array Nat), (l.foldl (fun out c => out ++ (f c).toArray) acc).toList = acc.toList ++ l.flatMap f
  | [], acc => by simp
  | c :: r, acc => by rw [List.foldl_cons, foldl_app f r]; simp
theorem repr_toList (x : PySem.Str) : (reprText x).cps.toList = reprQuote x :: (x.cps.toList.flatMap (Builtin.Str.reprChar (reprQuote x)) ++ [reprQuote x]) := by
  show ((x.cps.foldl (fun out c => out ++ (Builtin.Str.reprChar (reprQuote x) c).toArray) #[reprQuote x]).push (reprQuote x)).toList = _
  rw [Array.toList_push, ← Array.foldl_toList, foldl_app]
  simp
noncomputable def SL : List Nat := [97, 39, 34, 92, 10, 13, 9, 0, 127, 160, 233, 20013, 128512, 48, 32, 123]
theorem sgn_mem : ∀ k, k < 16 → sgn k ∈ SL := by decide +kernel
theorem signsOf_mem : ∀ (k n c : Nat), c ∈ signsOf k n → c ∈ SL
  | 0, _, _, h => by simp [signsOf] at h
  | k + 1, n, c, h => by
    rw [signsOf] at h
    split at h
    · cases h
    · rcases List.mem_cons.mp h with rfl | h
      · exact sgn_mem _ (Nat.mod_lt _ (by decide))
      · exact signsOf_mem k _ c h
theorem signsOf_len : ∀ (k n : Nat), (signsOf k n).length ≤ k
  | 0, _ => by simp [signsOf]
  | k + 1, n => by
    rw [signsOf]
    split
    · exact Nat.zero_le _
    · have := signsOf_len k (n / 16); simp only [List.length_cons]; omega
set_option maxRecDepth 100000 in
theorem char_ok : ∀ c ∈ SL, ∀ q ∈ [34, 39], Builtin.Str.reprChar q c = lsChar false q c ∧ (Builtin.Str.reprChar q c).flatMap escA = lsChar true q c := by decide +kernel
theorem sl_lt : ∀ c ∈ SL, c < 1114112 := by decide +kernel
theorem lsQuote_mem (l : List Nat) : lsQuote l ∈ [34, 39] := by unfold lsQuote; split <;> simp
theorem quote_eq (l : List Nat) : reprQuote (strOf l) = lsQuote l := by
  unfold reprQuote lsQuote strOf
  by_cases h1 : 39 ∈ l <;> by_cases h2 : 34 ∈ l <;> simp [h1, h2]
theorem flatMap_congr {f g : Nat → List Nat} : ∀ {l : List Nat}, (∀ c ∈ l, f c = g c) → l.flatMap f = l.flatMap g
  | [], _ => rfl
  | c :: r, h => by rw [List.flatMap_cons, List.flatMap_cons, h c (.head _), flatMap_congr fun c hc => h c (.tail _ hc)]
theorem flat_flat (f : Nat → List Nat) : ∀ l : List Nat, (l.flatMap f).flatMap escA = l.flatMap fun c => (f c).flatMap escA
  | [] => rfl
  | c :: r => by rw [List.flatMap_cons, List.flatMap_append, flat_flat f r, List.flatMap_cons]
theorem text_shown {l : List Nat} (h : ∀ c ∈ l, c ∈ SL) : reprText (strOf l) = strOf (lsText false l) := str_ext (by
  rw [repr_toList, quote_eq]
  show lsQuote l :: (l.toArray.toList.flatMap _ ++ _) = (lsText false l).toArray.toList
  rw [List.toList_toArray, List.toList_toArray, lsText, flatMap_congr fun c hc => (char_ok c (h c hc) _ (lsQuote_mem l)).1])
theorem escA_quote (l : List Nat) : escA (lsQuote l) = [lsQuote l] := by unfold lsQuote; split <;> decide
theorem text_ascii {l : List Nat} (h : ∀ c ∈ l, c ∈ SL) : asciiText (reprText (strOf l)) = strOf (lsText true l) := str_ext (by
  rw [asciiText_toList, repr_toList, quote_eq, List.flatMap_cons, List.flatMap_append, flat_flat, escA_quote]
  show [lsQuote l] ++ (l.toArray.toList.flatMap _ ++ _) = (lsText true l).toArray.toList
  rw [List.toList_toArray, List.toList_toArray, lsText, flatMap_congr fun c hc => (char_ok c (h c hc) _ (lsQuote_mem l)).2]
  simp [escA_quote])

theorem digitChar_hex : ∀ j, j < 10 → (Nat.digitChar j).toNat = hexDigit j := by decide +kernel
theorem figs_end (k : Nat) (c : Nat) (acc : List Nat) : figsAux k 0 10 1 (c :: acc) = c :: acc := by
  cases k <;> simp [figsAux]
theorem digits_core : ∀ (fuel n k : Nat) (ds : List Char), n < fuel → n / 10 < 10 ^ k → (Nat.toDigitsCore 10 fuel n ds).map Char.toNat = figsAux k (n / 10) 10 1 (hexDigit (n % 10) :: ds.map Char.toNat)
  | 0, _, _, _, h, _ => absurd h (Nat.not_lt_zero _)
  | fuel + 1, n, k, ds, h, hk => by
    rw [Nat.toDigitsCore]
    have hd := digitChar_hex (n % 10) (Nat.mod_lt _ (by decide))
    by_cases hz : n / 10 = 0
    · rw [hz, figs_end]
      simp [hz, hd]
    · rw [if_neg hz]
      cases k with
      | zero => simp at hk; omega
      | succ k =>
        rw [digits_core fuel (n / 10) k _ (by omega) (by rw [Nat.pow_succ] at hk; omega), figsAux, if_pos (.inl (by omega))]
        simp [hd]
theorem digits_text (n : Nat) (h : n < 2 ^ 40) : (Nat.toDigits 10 n).map Char.toNat = figs n 10 1 := by
  have e : figs n 10 1 = figsAux 63 (n / 10) 10 1 [hexDigit (n % 10)] := by
    show figsAux (63 + 1) n 10 1 [] = _
    rw [figsAux, if_pos (.inr (by decide))]
  rw [e]
  exact digits_core (n + 1) n 63 [] (by omega) (Nat.lt_of_le_of_lt (Nat.div_le_self _ _) (Nat.lt_of_lt_of_le h (by decide)))
theorem nat_text (n : Nat) (h : n < 2 ^ 40) : (Nat.repr n).toList.map Char.toNat = figs n 10 1 := by
  rw [Nat.repr, String.toList_ofList, digits_text n h]
theorem int_text' (i : Int) (h : i.natAbs < 2 ^ 40) : Str.ofString (toString i) = (if i < 0 then Str.ofString "-" else Str.ofString "") ++ strOf (figs i.natAbs 10 1) := str_ext (by
  rw [signs_ofString, app_toList]
  cases i with
  | ofNat m =>
    have e : (toString (Int.ofNat m)) = Nat.repr m := rfl
    rw [e, nat_text m (by simpa using h), if_neg (show ¬ Int.ofNat m < 0 from Int.not_lt.mpr (Int.natCast_nonneg m))]
    rfl
  | negSucc m =>
    have e : (toString (Int.negSucc m)) = "-" ++ Nat.repr (m + 1) := rfl
    rw [e, String.toList_append, List.map_append, nat_text (m + 1) (by simpa using h), if_pos (by omega)]
    rfl)
theorem figs_ascii : ∀ (k n : Nat) (acc : List Nat), (∀ c ∈ acc, c < 128) → ∀ c ∈ figsAux k n 10 1 acc, c < 128
  | 0, _, _, h => h
  | k + 1, n, acc, h => by
    rw [figsAux]
    split
    · refine figs_ascii k _ _ fun c hc => ?_
      rcases List.mem_cons.mp hc with rfl | hc
      · rw [← digitChar_hex _ (Nat.mod_lt _ (by decide))]
        exact (show ∀ j, j < 10 → (Nat.digitChar j).toNat < 128 by decide +kernel) _ (Nat.mod_lt _ (by decide))
      · exact h c hc
    · exact h
theorem all_of {x : PySem.Str} (h : ∀ c ∈ x.cps.toList, c < 128) : x.cps.all (· < 128) = true := by
  rw [Array.all_eq_true]
  intro i hi
  simpa using h _ (Array.mem_toList_iff.mpr (Array.getElem_mem hi))
structure DOk (k L : Nat) (d : PyData) : Prop where
  len : ∀ plain, (lawShown plain d).length ≤ L
  shown : lawShown false d = d.shown
  ascii : lawShown true d = asciiText d.shown
  ok : ∀ plain, ShownOk plain k d
  lay : d.canLay0 = true
  showable : d.showable = true
  noDict : d.hasDict = false
  depth : d.depth ≤ k
theorem leaf_none : DOk 0 600 .none where
  len := by intro p; simp only [lawShown]; decide +kernel
  shown := rfl
  ascii := by decide +kernel
  ok := fun _ => shownOk_none
  lay := rfl
  showable := rfl
  noDict := rfl
  depth := Nat.le_refl _
theorem leaf_bool (b : Bool) : DOk 0 600 (.bool b) where
  len := by intro p; simp only [lawShown]; cases b <;> decide +kernel
  shown := by cases b <;> decide +kernel
  ascii := by cases b <;> decide +kernel
  ok := fun _ => shownOk_bool
  lay := rfl
  showable := rfl
  noDict := rfl
  depth := Nat.le_refl _
theorem leaf_int (i : Int) (h : i.natAbs < 2 ^ 40) : DOk 0 600 (.int i) where
  len := by
    intro p
    simp only [lawShown]
    rw [PySem.Str.length_append, strOf_length]
    have := figs_length i.natAbs 10 1
    have h2 : (if i < 0 then Str.ofString "-" else Str.ofString "").length ≤ 1 := by split <;> decide +kernel
    omega
  shown := by simp only [lawShown]; exact (int_text' i h).symm
  ascii := by
    simp only [lawShown]
    rw [PyData.shown, int_text' i h, asciiText_plain]
    refine all_of fun c hc => ?_
    rw [app_toList] at hc
    rcases List.mem_append.mp hc with hc | hc
    · split at hc
      · exact (show ∀ c ∈ (Str.ofString "-").cps.toList, c < 128 by decide +kernel) c hc
      · exact (show ∀ c ∈ (Str.ofString "").cps.toList, c < 128 by decide +kernel) c hc
    · exact figs_ascii 64 _ [] (fun _ h => by cases h) c (by simpa [strOf, figs] using hc)
  ok := fun _ => shownOk_int h
  lay := rfl
  showable := by
    simp only [PyData.showable]
    refine decide_eq_true ?_
    by_cases hz : i.natAbs = 0
    · rw [hz]; decide
    · have := (Nat.log2_lt hz).mpr h; omega
  noDict := rfl
  depth := Nat.le_refl _
theorem leaf_text (n : Int) : DOk 0 600 (.str (lawText n)) := by
  have hm : ∀ c ∈ signsOf 8 (n.natAbs % 4294967296), c ∈ SL := fun c hc => signsOf_mem _ _ c hc
  have hl := signsOf_len 8 (n.natAbs % 4294967296)
  rw [lawText]
  generalize signsOf 8 (n.natAbs % 4294967296) = l at hm hl
  have el : (strOf l).cps.toList = l := by simp [strOf]
  exact {
    len := by
      intro p
      simp only [lawShown]
      rw [el, strOf_length, lsText]
      have := flat_length (lsChar_length p (lsQuote l)) l
      simp only [List.length_cons, List.length_append, List.length_nil]
      omega
    shown := by simp only [lawShown, el]; exact (text_shown hm).symm
    ascii := by simp only [lawShown, el]; exact (text_ascii hm).symm
    ok := fun _ => shownOk_str (by omega) (fun c hc => Nat.lt_trans (sl_lt c (hm c hc)) (by decide))
    lay := by
      show ((strOf l).cps.all (· < 0x110000)) = true
      rw [Array.all_eq_true]
      intro i hi
      have : (strOf l).cps[i] ∈ (strOf l).cps.toList := Array.mem_toList_iff.mpr (Array.getElem_mem hi)
      rw [el] at this
      simpa using sl_lt _ (hm _ this)
    showable := rfl
    noDict := rfl
    depth := Nat.le_refl _ }
theorem shownOk_mono {plain : Bool} {k k' : Nat} {d : PyData} (h : ShownOk plain k d) (hk : k ≤ k') : ShownOk plain k' d :=
  fun w A E mg mb s v as G R r => h w A E mg mb s v as G (R.less (by omega) (by omega)) r
theorem DOk.mono {k k' L L' : Nat} {d : PyData} (h : DOk k L d) (hk : k ≤ k') (hL : L ≤ L') : DOk k' L' d :=
  ⟨fun p => Nat.le_trans (h.len p) hL, h.shown, h.ascii, fun p => shownOk_mono (h.ok p) hk, h.lay, h.showable, h.noDict, Nat.le_trans h.depth hk⟩
theorem valOk_of {d : PyData} {L : Nat} (h : DOk 2 L d) (hL : L ≤ 100000) : ValOk d where
  showable := h.showable
  noDict := h.noDict
  depth := by have := h.depth; omega
  size := by rw [← h.shown]; have := h.len false; omega
  sizeA := by rw [← h.ascii]; have := h.len true; omega
  shown := h.shown
  ascii := h.ascii
  ok := h.ok
  lay := h.lay
noncomputable def sepCps : Array Nat := (Str.ofString ", ").cps
theorem tf_cps : ∀ (r : List PySem.Str) (k : Nat) (acc : PySem.Str), (PySem.textFrom (k + 1) acc r).cps = r.foldl (fun a p => a ++ sepCps ++ p.cps) acc.cps
  | [], _, _ => rfl
  | t :: r, k, acc => by
    rw [PySem.textFrom, tf_cps r, List.foldl_cons, if_pos (Nat.succ_pos k)]
    rfl
theorem fold_pre (x : Array Nat) : ∀ (r : List PySem.Str) (a : Array Nat), r.foldl (fun a p => a ++ sepCps ++ p.cps) (x ++ a) = x ++ r.foldl (fun a p => a ++ sepCps ++ p.cps) a
  | [], _ => rfl
  | t :: r, a => by rw [List.foldl_cons, List.foldl_cons, ← fold_pre x r, Array.append_assoc, Array.append_assoc, Array.append_assoc]
theorem list_join (ts : List PySem.Str) : PySem.listText ts = Str.ofString "[" ++ Txt.join (Str.ofString ", ") ts ++ Str.ofString "]" := by
  unfold PySem.listText
  refine congrArg (· ++ Str.ofString "]") ?_
  cases ts with
  | nil => decide +kernel
  | cons t r =>
    show PySem.textFrom 1 ((Str.ofString "[" ++ Str.ofString "") ++ t) r = _
    have e : ∀ a b : PySem.Str, a.cps = b.cps → a = b := fun a b h => by cases a; cases b; exact congrArg _ h
    refine e _ _ ?_
    rw [tf_cps r 0]
    show _ = (Str.ofString "[").cps ++ r.foldl (fun a p => a ++ sepCps ++ p.cps) t.cps
    rw [← fold_pre]
    rfl

theorem fold_ascii : ∀ (r : List PySem.Str) (a : PySem.Str), asciiText ⟨r.foldl (fun a p => a ++ sepCps ++ p.cps) a.cps⟩ = ⟨(r.map asciiText).foldl (fun a p => a ++ sepCps ++ p.cps) (asciiText a).cps⟩
  | [], _ => rfl
  | t :: r, a => by
    have e : (asciiText ((a ++ Str.ofString ", ") ++ t)).cps = (asciiText a).cps ++ sepCps ++ (asciiText t).cps := by
      have e1 : asciiText (Str.ofString ", ") = Str.ofString ", " := by decide +kernel
      rw [ascii_app, ascii_app, e1]; rfl
    rw [List.map_cons, List.foldl_cons, List.foldl_cons, ← e]
    exact fold_ascii r ((a ++ Str.ofString ", ") ++ t)
theorem join_ascii (ts : List PySem.Str) : asciiText (Txt.join (Str.ofString ", ") ts) = Txt.join (Str.ofString ", ") (ts.map asciiText) := by
  cases ts with
  | nil => decide +kernel
  | cons t r => exact fold_ascii r t
theorem fold_len {L : Nat} : ∀ (r : List PySem.Str) (a : Array Nat), (∀ t ∈ r, t.length ≤ L) → (r.foldl (fun a p => a ++ sepCps ++ p.cps) a).size ≤ a.size + r.length * (L + 2)
  | [], _, _ => by simp
  | t :: r, a, h => by
    have h1 := fold_len r (a ++ sepCps ++ t.cps) fun x hx => h x (.tail _ hx)
    have h2 : t.cps.size ≤ L := h t (.head _)
    have h3 : sepCps.size = 2 := by decide +kernel
    rw [Array.size_append, Array.size_append, h3] at h1
    rw [List.foldl_cons, List.length_cons, Nat.add_mul]
    omega
theorem join_len {L : Nat} (ts : List PySem.Str) (h : ∀ t ∈ ts, t.length ≤ L) : (Txt.join (Str.ofString ", ") ts).length ≤ ts.length * (L + 2) := by
  cases ts with
  | nil => simp [Txt.join, Builtin.Str.glued, PySem.Str.length, PySem.Str.empty]
  | cons t r =>
    have h1 := fold_len r t.cps fun x hx => h x (.tail _ hx)
    have h2 : t.cps.size ≤ L := h t (.head _)
    show (r.foldl (fun a p => a ++ sepCps ++ p.cps) t.cps).size ≤ _
    rw [List.length_cons, Nat.add_mul]
    omega
theorem sum_len {L : Nat} : ∀ (ts : List PySem.Str) (a : Nat), (∀ t ∈ ts, t.length ≤ L) → ts.foldl (fun n t => n + t.length + 2) a ≤ a + ts.length * (L + 2)
  | [], _, _ => by simp
  | t :: r, a, h => by
    have h1 := sum_len r (a + t.length + 2) fun x hx => h x (.tail _ hx)
    have h2 := h t (.head _)
    rw [List.foldl_cons, List.length_cons, Nat.add_mul]
    omega
theorem join_ok {L : Nat} (ts : List PySem.Str) (h : ∀ t ∈ ts, t.length ≤ L) (hL : ts.length * (L + 2) ≤ 100000) : JoinOk (Str.ofString ", ") ts = true := by
  unfold JoinOk
  have h1 := sum_len ts 0 h
  have e : (Str.ofString ", ").length = 2 := by decide +kernel
  have e2 : ts.toArray.foldl (· + ·.length + (Str.ofString ", ").length) 0 = ts.foldl (fun n t => n + t.length + 2) 0 := by rw [e]; simp
  rw [e2, Bool.eq_false_iff.mpr (KPc.short (n := ts.foldl (fun n t => n + t.length + 2) 0) (by omega))]
  rfl
theorem all_shown {k L : Nat} : ∀ {xs : List PyData}, (∀ d ∈ xs, DOk k L d) → lawShownAll false xs = PyData.shownAll xs ∧ lawShownAll true xs = (PyData.shownAll xs).map asciiText ∧ PyData.canLayAll0 xs = true ∧ PyData.showableAll xs = true ∧ PyData.hasDictAll xs = false ∧ PyData.depthAll xs ≤ k ∧ ∀ p, ∀ t ∈ lawShownAll p xs, t.length ≤ L
  | [], _ => ⟨by simp only [lawShownAll, PyData.shownAll], by simp only [lawShownAll, PyData.shownAll, List.map_nil], by simp only [PyData.canLayAll0], by simp only [PyData.showableAll], by simp only [PyData.hasDictAll], by simp only [PyData.depthAll]; omega, fun p t h => by simp only [lawShownAll] at h; cases h⟩
  | d :: xs, h => by
    obtain ⟨h1, h2, h3, h4, h5, h6, h7⟩ := all_shown fun x hx => h x (.tail _ hx)
    have hd := h d (.head _)
    refine ⟨by simp only [lawShownAll, PyData.shownAll, h1, hd.shown], by simp only [lawShownAll, PyData.shownAll, List.map_cons, h2, hd.ascii], by simp only [PyData.canLayAll0, h3, hd.lay, Bool.and_self], by simp only [PyData.showableAll, h4, hd.showable, Bool.and_self],
      by simp only [PyData.hasDictAll, h5, hd.noDict, Bool.or_self], by simp only [PyData.depthAll]; have := hd.depth; omega, fun p t ht => ?_⟩
    simp only [lawShownAll] at ht
    rcases List.mem_cons.mp ht with rfl | ht
    · exact hd.len p
    · exact h7 p t ht
theorem dok_list {k L : Nat} {xs : List PyData} (h : ∀ d ∈ xs, DOk k L d) (hn : xs.length ≤ 4) (hL : L ≤ 10000) : DOk (k + 1) (4 * (L + 2) + 2) (.list xs) := by
  obtain ⟨h1, h2, h3, h4, h5, h6, h7⟩ := all_shown h
  have hlen : ∀ p, (lawShownAll p xs).length * (L + 2) ≤ 4 * (L + 2) := fun p => by rw [lawShownAll_length]; exact Nat.mul_le_mul_right _ hn
  have e1 : (Str.ofString "[").length = 1 := by decide +kernel
  have e2 : (Str.ofString "]").length = 1 := by decide +kernel
  have e3 : asciiText (Str.ofString "[") = Str.ofString "[" := by decide +kernel
  have e4 : asciiText (Str.ofString "]") = Str.ofString "]" := by decide +kernel
  have hj : ∀ p, (Txt.join (Str.ofString ", ") (lawShownAll p xs)).length ≤ 4 * (L + 2) := fun p => Nat.le_trans (join_len _ (h7 p)) (hlen p)
  exact {
    len := fun p => by
      simp only [lawShown]
      rw [PySem.Str.length_append, PySem.Str.length_append, e1, e2]
      have := hj p; omega
    shown := by simp only [lawShown, PyData.shown]; rw [list_join, h1]
    ascii := by simp only [lawShown, PyData.shown]; rw [list_join, ascii_app, ascii_app, e3, e4, join_ascii, h2]
    ok := fun p => shownOk_list (fun d hd => (h d hd).ok p) (by omega) (join_ok _ (h7 p) (by have := hlen p; omega)) (by have := hj p; omega)
    lay := by simp only [PyData.canLay0, h3]
    showable := by simp only [PyData.showable, h4]
    noDict := by simp only [PyData.hasDict, h5]
    depth := by simp only [PyData.depth]; omega }
theorem dok_tuple {k L : Nat} {d : PyData} (h : DOk k L d) (hL : L ≤ 10000) : DOk (k + 1) (L + 3) (.tuple [d]) := by
  have h' : ∀ x ∈ [d], DOk k L x := fun x hx => by rcases List.mem_singleton.mp hx with rfl; exact h
  obtain ⟨h1, h2, h3, h4, h5, h6, h7⟩ := all_shown h'
  have e1 : (Str.ofString "(").length = 1 := by decide +kernel
  have e2 : (Str.ofString ",)").length = 2 := by decide +kernel
  have e3 : asciiText (Str.ofString "(") = Str.ofString "(" := by decide +kernel
  have e4 : asciiText (Str.ofString ",)") = Str.ofString ",)" := by decide +kernel
  exact {
    len := fun p => by
      simp only [lawShown, lawShownAll, List.headD_cons]
      rw [PySem.Str.length_append, PySem.Str.length_append, e1, e2]
      have := h.len p; omega
    shown := by simp only [lawShown, lawShownAll, List.headD_cons, PyData.shown, PyData.shownAll]; rw [h.shown]; rfl
    ascii := by
      simp only [lawShown, lawShownAll, List.headD_cons, PyData.shown, PyData.shownAll]
      rw [h.ascii]
      show _ = asciiText ((Str.ofString "(" ++ d.shown) ++ Str.ofString ",)")
      rw [ascii_app, ascii_app, e3, e4]
    ok := fun p => shownOk_tuple (h.ok p) (by have := h.len p; omega)
    lay := by simp only [PyData.canLay0, h3]
    showable := by simp only [PyData.showable, h4]
    noDict := by simp only [PyData.hasDict, h5]
    depth := by simp only [PyData.depth]; omega }
theorem valOk (x : Int) : ValOk (lawValue x) := by
  have a1 := Int.fmod_nonneg_of_pos (x.fdiv 4) (show (0 : Int) < 1000000000 by decide)
  have a2 := Int.fmod_lt_of_pos (x.fdiv 4) (show (0 : Int) < 1000000000 by decide)
  have b1 := Int.fmod_nonneg_of_pos (x.fdiv 4) (show (0 : Int) < 11 by decide)
  have b2 := Int.fmod_lt_of_pos (x.fdiv 4) (show (0 : Int) < 11 by decide)
  unfold lawValue
  split
  · exact valOk_of ((leaf_text _).mono (by omega) (Nat.le_refl _)) (by omega)
  split
  · split
    · split
      · exact valOk_of (leaf_none.mono (by omega) (Nat.le_refl _)) (by omega)
      · exact valOk_of ((leaf_bool _).mono (by omega) (Nat.le_refl _)) (by omega)
    · exact valOk_of ((leaf_int _ (by omega)).mono (by omega) (Nat.le_refl _)) (by omega)
  split
  · have hi : DOk 1 (4 * (600 + 2) + 2) (.list [.str (lawText ((x.fdiv 4).fdiv 16)), .int ((x.fdiv 4).fmod 11 - 5)]) := dok_list (fun d hd => by
      simp only [List.mem_cons, List.not_mem_nil, or_false] at hd
      rcases hd with rfl | rfl
      · exact leaf_text _
      · exact leaf_int _ (by omega)) (by simp) (by omega)
    refine valOk_of (L := 4 * (4 * (600 + 2) + 2 + 2) + 2) (dok_list (fun d hd => ?_) (by simp) (by omega)) (by omega)
    simp only [List.mem_cons, List.not_mem_nil, or_false] at hd
    rcases hd with rfl | rfl | rfl | rfl
    · exact (leaf_text _).mono (by omega) (by omega)
    · exact leaf_none.mono (by omega) (by omega)
    · exact (leaf_bool _).mono (by omega) (by omega)
    · exact hi
  · exact valOk_of ((dok_tuple (leaf_text _) (by omega)).mono (by omega) (Nat.le_refl _)) (by omega)
-- part B11
-- MACROS
local macro_rules | `(tactic| walk_at "ext") => `(tactic| ((with_reducible show wpAny _ _ (call (Value.ref 120) _) _ _ _); (with_reducible refine r_call (by assumption) (value_spec (Glo.keeps (by assumption) (Fr.keep (In.fr (by assumption)))) (Rm.less (Rm.deeper (by assumption))) _ _) ?_)))
local macro_rules | `(tactic| walk_at "ext") => `(tactic| first
  | ((with_reducible show wpAny _ _ (getMethod (Value.ref _) _ _) _ _ _); (refine r_method (by assumption) (by assumption) (by assumption) (by assumption) (by k_is) (by k_is) (by k_is) (by rfl) ?_))
  | ((with_reducible show wpAny _ _ (callWith _ (Value.ref _) [_] _ _) _ _ _); (with_reducible refine r_cwm (by assumption) (by k_is) (wpAny_items_cons ?_ (by with_unfolding_all rfl)) (by with_unfolding_all rfl)))
  | ((with_reducible show wpAny _ _ (call (Value.ref 85) (_ ++ _)) _ _ _); dsimp only [List.cons_append, List.nil_append]))
-- END MACROS
theorem ints_get : ∀ {vs : List Value} {ns : List Int} {i : Nat} {v : Value}, IntsAre vs ns → vs[i]? = some v → ∃ k t, v = .int k t
  | _, _, 0, _, .cons n t _, e => by simp at e; exact ⟨n, t, e.symm⟩
  | _, _, i + 1, _, .cons _ _ h, e => ints_get (i := i) h (by simpa using e)
theorem r_sliceTo {prog : Program} {w : World} {A : Around} {E : Value → Shared → Prop} {h₀ : Heap} {m : PySem.Str → Option Value} {N : Led} {z : Zx} {s : Shared} {L : Addr} {value slice : Expr} {l : Addr} {items : Array Value} {k : Int} {u : Tok} {Q : Value → Shared → Prop}
    (I : In h₀ L m N z s) (hl : s.heap.IsList l items) (h : ∀ a s', N a = none → In h₀ L m (N.put a (listOf (slicePick items none (some k) none) 0)) z s' → Q (.ref a) s')
    (hs : subscripted slice false (.ref l) (.ref s.heap.objs.size) = operate [.ref s.heap.objs.size, .ref l] (getItem (.ref l) (.ref s.heap.objs.size)) := by with_unfolding_all rfl)
    (ht : ∀ r, letTemporaryGo value (.ref l) r = pure () := by intro _; with_unfolding_all rfl)
    (hsz : items.size ≤ sizeLine) :
    wpAny (model prog w) A (subscriptTail value slice (.ref l) (.ref s.heap.objs.size)) Q E { s with heap := s.heap.push { cls := .type "slice", data := .fields #[.none, .int k u, .none] } } := by
  refine slice_list I.fr I.news hl .none (.int _ _) (fun h' F' N' => ?_) hs ht hsz
  have I' := I.back (tk := s.toks) F' N' fun p hp => .tail _ hp
  have n1 := I.notOld (a := s.heap.objs.size + 1) fun p hp => Nat.lt_succ_of_lt (Heap.lt_size (mem_allNews.mp hp).1)
  have g1 := N' _ (.head _)
  exact h _ _ n1.1 (I'.addLed g1.1 g1.2.1 g1.2.2 n1.2)

noncomputable abbrev MarkOk (y : PySem.Str) : Prop := y.length ≤ 100 ∧ y ≠ Str.ofString "s" ∧ y ≠ Str.ofString "r" ∧ y ≠ Str.ofString "a"
theorem r_itemMarks {prog : Program} {w : World} {A : Around} {E : Value → Shared → Prop} {h₀ : Heap} {m : PySem.Str → Option Value} {N : Led} {z : Zx} {s : Shared} {L : Addr} {value slice : Expr} {l : Addr} {vs : List Value} {n : Nat} {k : Int} {u : Tok} {Q : Value → Shared → Prop} (I : In h₀ L m N z s) (hl : N l = some (listOf vs.toArray n))
    (hall : ∀ v ∈ vs, ∃ y t, v = .str y t ∧ MarkOk y) (h0 : 0 ≤ k) (h1 : k < (vs.length : Int)) (h2 : vs.length ≤ 1000) (h : ∀ y t, MarkOk y → Q (.str y t) s)
    (hs : subscripted slice false (.ref l) (.int k u) = operate [.ref l, .int k u] (getItem (.ref l) (.int k u)) := by with_unfolding_all rfl) :
    wpAny (model prog w) A (subscriptTail value slice (.ref l) (.int k u)) Q E s := by
  have hi : k.toNat < vs.length := by omega
  obtain ⟨y, t, e, hm⟩ := hall _ (List.getElem_mem hi)
  refine r_itemL I hl h0 (by omega) (v := .str y t) (by rw [← e]; exact List.getElem?_eq_getElem hi) (h y t hm) hs
noncomputable def letters : PySem.Str := Str.ofString "bcdefghijklmnopqtuvwxyz"
theorem letters_length : letters.length = 23 := by decide +kernel
theorem letters_ok : ∀ j, j < 23 → MarkOk ⟨#[letters.cps.getD j 0]⟩ := by decide +kernel
theorem In.forget {h₀ : Heap} {L : Addr} {m : PySem.Str → Option Value} {N : Led} {z : Zx} {s : Shared} (I : In h₀ L m N z s) (P : Led → Prop) (h : P N) : ∃ N', P N' ∧ In h₀ L m N' z s := ⟨N, h, I⟩
set_option maxRecDepth 100000 in
set_option maxHeartbeats 4000000 in
theorem law_run {w : World} {mg mb : PySem.Str → Option Value} {s : Shared} (G : Glo (hd.heap_39 w.params) mg mb s.heap) {l : Addr} {vs : List Value} {ns : List Int} (hl : s.heap.IsList l vs.toArray) (hI : IntsAre vs ns) (hn : ns.length ≤ 63) :
    wpAny (model PySem.Challenge.rw_kp0026_09.prog w) callerA (call (.ref 139) [.ref l]) (fun v s' => v = .bool true ∧ Keeps s s') (fun _ _ => False) s := by
  have R : Rm callerA 8 200 := ⟨rfl, by decide, by decide⟩
  have hg : callerA.guards = some [] := rfl
  have K : Stk callerA [] s.heap := ⟨rfl, trivial⟩
  generalize callerA = A at R hg K ⊢
  refine' call_fn (binds := [(Str.ofString "script", .ref l)]) (fun v _ => v = .bool true) G (R.less (d' := 0) (u' := 0)).depth ?ho ?hcd ?hb ?hc ?hl ?c1 ?c2 ?c3 ?_
  case ho => k_is
  case hcd => k_is
  case hb => exact BindsTo.of_eq rfl
  case hc => decide
  case hl => exact locs rfl
  case c1 => rfl
  case c2 => rfl
  case c3 => rfl
  intro s₁ I
  walk_at "gs"
  refine wpAny_Slice (evalPart_none_step (evalPart_some_step ?_))
  walk_at "gs"
  refine evalPart_none_step ?_
  refine r_sliceTo (by assumption) (hl.at fun o e => Fr.keep (In.fr (by assumption)) _ _ e) ?_ (by with_unfolding_all rfl) (by intro _; with_unfolding_all rfl) (by rw [List.size_toArray, hI.length]; show _ ≤ 16777216; omega)
  intro a1 s2 ha1 I2
  obtain ⟨ws, hw, hws⟩ : ∃ ws : List Value, slicePick vs.toArray none (some 63) none = ws.toArray ∧ IntsAre ws (ns.take 63) := ⟨(slicePick vs.toArray none (some 63) none).toList, rfl, slice_ints_uptoW (y := 63) hI (by decide)⟩
  rw [hw] at I2
  have hwl : ws.length ≤ 63 := by rw [hws.length, List.length_take]; omega
  walk_at "gs"
  refine callWith_K0 (G.X.keeps (Fr.keep (In.fr (by assumption)))) (by k_is) ?_
  refine r_make0 G (by assumption) (by k_is) (by k_is) ?_
  intro xf dxf s3 hd1 hd2 hne I3
  obtain ⟨N3, ⟨hx3, hdx3, ha3⟩, J3⟩ := In.forget I3 (fun N => N xf = some (instObj 102 dxf) ∧ N dxf = some (dictOf [] 0) ∧ N a1 = some (listOf ws.toArray 0))
    ⟨Led.put_same, by rw [Led.put_ne hne.symm]; exact Led.put_same, Led.put_of (Led.put_of Led.put_same hd1) (Led.put_none hd2 hne)⟩
  clear I3 hd1 hd2 I2 ha1
  walk_at "gs"
  refine x_for (wpAny_For ?_ (by intro _; with_unfolding_all rfl))
  walk_at "gs"
  rename_i a2 s4 hn2 _ I4
  refine r_addL I4 (Led.put_of ha3 hn2) Led.put_same ?_ (by show ws.length + 4 ≤ 16777216; omega)
  intro a4 s5 hn4 _ I5
  obtain ⟨N5, ⟨hx5, hdx5, lits, hlits, hl5⟩, J5⟩ := In.forget I5 (fun N => N xf = some (instObj 102 dxf) ∧ N dxf = some (dictOf [] 0) ∧ ∃ lits, IntsAre lits [40, 1, 42, 13] ∧ N a4 = some (listOf (ws ++ lits).toArray 0))
    ⟨Led.put_of (Led.put_of hx3 hn2) hn4, Led.put_of (Led.put_of hdx3 hn2) hn4, _, .cons _ _ (.cons _ _ (.cons _ _ (.cons _ _ .nil))), Led.put_same⟩
  clear I4 I5
  refine r_iterL (fun _ m => m (Str.ofString "formatter") = some (.ref xf)) (R.handled) J5 hl5 (by walk_at "look") ?turn ?done
  case done =>
    intro m s6 hm I6
    walk_at "gs"
    exact ⟨rfl, _, _, _, by assumption⟩
  intro i v m z' s6 hv hm hz I6
  obtain ⟨k, t, rfl⟩ := ints_get (hws.append hlits) hv
  clear J5 J3 hv
  walk_at "gs"
  rintro v s7 ⟨⟨as, hr⟩, htk⟩ hk7 I7
  have VO := valOk k
  obtain ⟨d, hd⟩ : ∃ d, d = lawValue k := ⟨_, rfl⟩
  rw [← hd] at hr VO
  clear I6 hk7
  obtain ⟨I8, hle⟩ := I7.full
  have hrd : ∀ {m' N' z'' s'}, In s.heap s.heap.objs.size m' N' z'' s' → Led.Le (fullLed s.heap s.heap.objs.size z' s7.heap) N' → Zle z' z'' → Reads s'.heap v d as := fun J l1 l2 => I7.reads ((J.drop l2).weaken l1) hr VO.noDict
  have hx8 := hle _ _ hx5
  have hdx8 := hle _ _ hdx5
  generalize fullLed s.heap s.heap.objs.size z' s7.heap = NF at I8 hle hrd hx8 hdx8
  clear I7 hx5 hdx5 hl5 hr
  walk_at "gs"
  refine r_call (by assumption) (conv_none (G.keeps (Fr.keep (In.fr (by assumption)))) (Rm.less (Rm.deeper R)) _ _) ?_
  intro v1 s8 e1 _ I9
  subst v1
  walk_at "gs"
  refine isnot_self htk ?_
  walk_at "gs"
  refine r_call (by assumption) (conv_s (G.keeps (Fr.keep (In.fr (by assumption)))) (Rm.less (Rm.deeper R)) hg _ _ _ (hrd (by assumption) (Led.Le.refl _) (Zle.refl _)) VO.showable VO.noDict VO.depth (by have := VO.size; omega)) ?_
  rintro v1 s9 ⟨t1, e1⟩ _ I10
  subst v1
  refine cutI I10 (fun b => ∃ t, b = .str (strD d) t) (wpAny_IfExp ?_) ?_
  · walk_at "gs"
    refine r_isiStr G (by assumption) (hrd (by assumption) (Led.Le.refl _) (Zle.refl _)) VO.noDict ?_
    intro _ _
    walk_at "gs"
    refine if_bool (fun hb => ?_) (fun hb => ?_)
    · walk_at "gs"
      have := hrd I10 (Led.Le.refl _) (Zle.refl _)
      cases this with
      | str x t => exact ⟨⟨t, rfl⟩, by assumption⟩
      | _ => cases hb
    · walk_at "gs"
      refine r_call (by assumption) (VO.ok false _ _ _ _ _ _ _ _ (G.keeps (Fr.keep (In.fr (by assumption)))) (Rm.less (Rm.deeper R)) (hrd (by assumption) (Led.Le.refl _) (Zle.refl _))) ?_
      rintro v1 s11 ⟨t2, e2⟩ _ I11
      subst v1
      refine ⟨⟨t2, ?_⟩, I11⟩
      rw [VO.shown]
      cases d <;> first | rfl | cases hb
  rintro _ s11 ⟨t2, rfl⟩ I11
  refine PyProof.Rows.ne_str ?_
  rw [bne_self_eq_false]
  walk_at "gs"
  refine r_call (by assumption) (conv_r (G.keeps (Fr.keep (In.fr (by assumption)))) (Rm.less (Rm.deeper R)) hg _ _ _ (hrd (by assumption) (Led.Le.refl _) (Zle.refl _)) VO.showable VO.noDict VO.depth VO.size) ?_
  rintro v1 s12 ⟨t3, e3⟩ _ I12
  subst v1
  walk_at "gs"
  refine r_call (by assumption) (VO.ok false _ _ _ _ _ _ _ _ (G.keeps (Fr.keep (In.fr (by assumption)))) (Rm.less (Rm.deeper R)) (hrd (by assumption) (Led.Le.refl _) (Zle.refl _))) ?_
  rintro v1 s13 ⟨t4, e4⟩ _ I13
  subst v1
  rw [VO.shown]
  refine PyProof.Rows.ne_str ?_
  rw [bne_self_eq_false]
  walk_at "gs"
  refine r_call (by assumption) (conv_a (G.keeps (Fr.keep (In.fr (by assumption)))) (Rm.less (Rm.deeper R)) hg _ _ _ (hrd (by assumption) (Led.Le.refl _) (Zle.refl _)) VO.showable VO.noDict VO.depth VO.size VO.sizeA) ?_
  rintro v1 s14 ⟨t5, e5⟩ _ I14
  subst v1
  walk_at "gs"
  refine r_call (by assumption) (VO.ok true _ _ _ _ _ _ _ _ (G.keeps (Fr.keep (In.fr (by assumption)))) (Rm.less (Rm.deeper R)) (hrd (by assumption) (Led.Le.refl _) (Zle.refl _))) ?_
  rintro v1 s15 ⟨t6, e6⟩ _ I15
  subst v1
  rw [VO.ascii]
  refine PyProof.Rows.ne_str ?_
  rw [bne_self_eq_false]
  walk_at "gs"
  have f16 := Int.fmod_nonneg_of_pos (k.fdiv 4) (show (0 : Int) < 16 by decide)
  have g16 := Int.fmod_lt_of_pos (k.fdiv 4) (show (0 : Int) < 16 by decide)
  have f23 := Int.fmod_nonneg_of_pos (k.fdiv 4) (show (0 : Int) < 23 by decide)
  have g23 := Int.fmod_lt_of_pos (k.fdiv 4) (show (0 : Int) < 23 by decide)
  refine r_itemMarks (by assumption) Led.put_same ?marks f16 (by exact g16) (of_decide_eq_true rfl) ?_
  case marks =>
    repeat (refine List.forall_mem_cons.mpr ⟨⟨_, _, rfl, by decide +kernel⟩, ?_⟩)
    intro v hv
    cases hv
  intro y1 u1 hy1
  have I16 := In.weaken (N := NF) (by assumption) (Led.le_put (by assumption))
  walk_at "gs"
  refine x_for (wpAny_For ?_ (by intro _; with_unfolding_all rfl))
  walk_at "gs"
  have el : Str.ofString "bcdefghijklmnopqtuvwxyz" = letters := rfl
  rw [el]
  refine r_itemS (by assumption) f23 (by rw [letters_length]; exact g23) (by rw [letters_length]; decide) ?_
  have hy2 := letters_ok ((k.fdiv 4).fmod 23).toNat (by omega)
  generalize (⟨#[letters.cps.getD ((k.fdiv 4).fmod 23).toNat 0]⟩ : PySem.Str) = y2 at hy2 ⊢
  intro u2 s17 I17
  walk_at "gs"
  rename_i a17 s18 hn17 _ I18
  obtain ⟨N9, ⟨hx9, hd9, ht9, hl9⟩, J18⟩ := In.forget I18 (fun N => N xf = some (instObj 102 dxf) ∧ N dxf = some (dictOf [] 0) ∧ N a17 = some (tupleOf [.str y1 u1, .str y2 u2].toArray) ∧ Led.Le NF N)
    ⟨Led.put_of hx8 hn17, Led.put_of hdx8 hn17, Led.put_same, Led.le_put hn17⟩
  clear I18
  refine r_iterT (fun _ m => m (Str.ofString "formatter") = some (.ref xf) ∧ m (Str.ofString "value") = some v ∧ m (Str.ofString "x") = some (.int k t)) R.handled J18 ht9 ⟨by walk_at "look", by walk_at "look", by walk_at "look"⟩ ?turn2 ?done2
  case turn2 =>
    rintro i2 v2 m2 z2 s19 hv2 ⟨hm1, hm2, hm3⟩ hz2 I19
    obtain ⟨y, u, rfl, hy⟩ : ∃ y u, v2 = .str y u ∧ MarkOk y := by
      have := List.mem_of_getElem? hv2
      simp only [List.mem_cons, List.not_mem_nil, or_false] at this
      rcases this with rfl | rfl
      · exact ⟨_, _, rfl, hy1⟩
      · exact ⟨_, _, rfl, hy2⟩
    clear J18 I17 I16 hv2
    refine x_cons (wpAny_Try_except (x_cons (wpAny_Expr_any ?_ (by with_unfolding_all rfl) (by with_unfolding_all rfl))))
    walk_at "gs"
    have K1 := K.push (env := envX _ _ s.heap.objs.size 139 _ []) (by assumption)
    refine wpAny_mono (conv_raise (G.keeps (Fr.keep (In.fr (by assumption)))) (Rm.less (Rm.deeper R)) K1 _ _ _ _ hy.1 hy.2.1 hy.2.2.1 hy.2.2.2) (fun _ _ x => x.elim) ?_
    rintro _ s21 ⟨e, u9, rfl, hF⟩
    refine caught G K1.stack (by assumption) hF (by k_is) boot_VE PySem.F.isExc_ValueError PySem.F.notTuple_ValueError (by rw [isSubtype_type]; kernel_rfl) ?_
    intro s22 N' te hle' hT I22
    walk_at "gs"
    refine r_strExc PySem.F.excStr_ValueError I22 hT (by have := R.units; show A.units + 3 + 2 < _; omega) ?_
    walk_at "gs"
    have eU : (Str.ofString "Unknown conversion specifier ").length = 29 := by decide +kernel
    refine r_addS (by assumption) ?_ (by have := hy.1; rw [eU]; show _ ≤ 16777216; omega)
    intro u10 s24 I24
    refine PyProof.Rows.ne_str ?_
    rw [bne_self_eq_false]
    walk_at "gs"
    refine ⟨_, _, _, by assumption, fun s5 v5 I5 => ?_⟩
    refine then_next (x_nil ?_)
    exact ⟨_, ⟨updo_ne (by decide +kernel) (by walk_at "look"), updo_ne (by decide +kernel) (by walk_at "look"), updo_ne (by decide +kernel) (by walk_at "look")⟩, I5.weaken hle'⟩
  rintro m3 s23 ⟨hm1, hm2, hm3⟩ I23
  have I24 := I23.weaken hl9
  refine then_next ?_
  clear I23 J18
  walk_at "gs"
  rintro v3 s25 ⟨⟨as', hr'⟩, _⟩ _ I25
  rw [← hd] at hr'
  refine SeqAt.compareNe_reads (hrd (by assumption) (Led.Le.refl _) (Zle.refl _)) hr' VO.lay VO.lay (by have h1 := R.units; have h2 := VO.depth; show A.units + 3 + _ < _; omega) ?_
  rw [SeqAt.eqv_refl d VO.lay, Bool.not_true]
  walk_at "gs"
  exact ⟨_, hm1, In.weaken (by assumption) hle⟩
end Mine
set_option maxRecDepth 100000 in
set_option maxHeartbeats 8000000 in
theorem PySem.Challenge.cw_kp0026_09_holds : PySem.Challenge.rw_kp0026_09.Holds := by
  refine Mine.hd ?_
  intro w s₀ s₁ mg mb G Y fa o pm cd doc dV kV ho hd hcd hD hmg hg args vals as hpre hlay hrd hwl hlo
  have KX := kIn_of Y
  refine Ground.open G ?_
  intro T B D TE TW
  clear D TE TW B hD
  have GL : Mine.Glo (Mine.hd.heap_39 w.params) mg mb s₁.heap := Mine.Glo.of KX T
  have h1 := mg_of (n := Str.ofString "law") (v := .ref 139) KX T.g (by k_is)
  have h2 : some (Value.ref fa) = some (Value.ref 139) := hmg.symm.trans h1
  have h3 : fa = 139 := by injection h2 with h2; injection h2
  subst h3
  clear ho hd hcd hmg h1 h2
  wrow_args hpre hlay hrd hwl hlo
  refine wpAny_mono (Mine.law_run GL (by assumption) (by assumption) (by omega)) (fun v s' x => ?_) (fun _ _ x => x.elim)
  obtain ⟨rfl, h', t', rfl, kk⟩ := x
  refine GoodW.toG ⟨.inl ⟨.bool true, .bool true, [], rfl, ?_, .bool true, ?_, ?_⟩, kk, rfl, hg⟩
  · intro cls; rfl
  · wrow_post
  · exact unshared_nil
