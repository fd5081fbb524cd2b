import PyProof.Rows.All
import Wide.All
import OpenK.AllK
import Wide.FinOn
import PySem.Challenge.RW_kp0026_05
open PySem PySem.Calls PySem.Spec PySem.W PyProof.Rows
set_option Elab.async false
set_option linter.all false
set_option compiler.extract_closed false
set_option hygiene false
namespace Mine
noncomputable def vw : Program := { PySem.Challenge.rw_kp0026_05.row.toRowW.1 with main := { PySem.Challenge.rw_kp0026_05.row.toRowW.1.main with body := PySem.Challenge.rw_kp0026_05.row.toRowW.1.main.body.take 2 ++ ((PySem.Challenge.rw_kp0026_05.row.toRowW.1.main.body.drop 3).take 1 ++ PySem.Challenge.rw_kp0026_05.row.toRowW.1.main.body.drop 5) } }
set_option hygiene false in
local macro_rules | `(tactic| o_head $H) => `(tactic| (
  refine holds_open (q := vw) (loose := []) (Xt := fun s => xlAt vw [] s && recOk (RowW.records PySem.Challenge.rw_kp0026_05.row.toRowW) s) (XP := XL vw []) (Yf := Hook.obs $H) (Ya := Hook.val $H) (YP := Hook.says $H) (N := 1416) ?hl (Hook.of $H) (Hook.keeps $H) (fun s e => xl_of s (Bool.and_eq_true_iff.mp e).1) XL.keeps (by rfl) (by rfl) (by rfl) (fun s e => recFacts_of (Bool.and_eq_true_iff.mp e).2) (by first | rfl | fail "wr") (by first | assumption | decide +kernel) (by decide +kernel) ⟨rfl, rfl, rfl, rfl, rfl, by decide +kernel⟩ ?hw ?hc
  case hl => (intro w; kernel_rfl)))
set_option maxRecDepth 100000 in
theorem said05 : PySem.Challenge.rw_kp0026_05.wellSaid = true := by kernel_rfl
set_option hygiene false in
local macro_rules | `(tactic| o_law) => `(tactic| refine holds_law Mine.said05 fun said => ?_)
set_option maxRecDepth 100000 in
set_option maxHeartbeats 8000000 in
open_top hd for PySem.Challenge.rw_kp0026_05
theorem fill_all : (fun P : Params => hd.heap_1 P) = (fun P => hd.heap_1 P) ∧ PySem.Challenge.rw_kp0026_05 = PySem.Challenge.rw_kp0026_05 := by
  k_fill
  exact ⟨rfl, rfl⟩
-- part P1
structure Nd where
  j : Nat
  auto : Bool
  mark : Option PySem.Str
  lit : Option PySem.Str
  wish : Bool
  mid : Bool
structure Pc where
  lit : Option PySem.Str
  name : Option PySem.Str
  shape : Option PySem.Str
  mark : Option PySem.Str
inductive Ev
  | parse (t : PySem.Str)
  | piece (t : PySem.Str)
  | get (n : PySem.Str)
  | convert (v : PySem.Str) (m : Option PySem.Str)
  | format (v t : PySem.Str)
inductive Tree
  | node (d : Nd) (kids : List Tree)
noncomputable def numT (n : Nat) : PySem.Str := Str.ofString (toString n)
noncomputable def fmtT (j : Nat) : PySem.Str := Str.ofString "format" ++ numT j
noncomputable def markT : Option PySem.Str → PySem.Str
  | none => Str.ofString "None"
  | some m => m
noncomputable def litT : Option PySem.Str → PySem.Str
  | none => Str.ofString ""
  | some l => l
noncomputable def Nd.asked (d : Nd) (free : Nat) : PySem.Str := if d.auto then numT free else Str.ofString "n" ++ numT d.j
noncomputable def Nd.name (d : Nd) : PySem.Str := if d.auto then Str.ofString "" else Str.ofString "n" ++ numT d.j
noncomputable def Nd.next (d : Nd) (free : Nat) : Nat := if d.auto then free + 1 else free
noncomputable def Nd.value (d : Nd) (free : Nat) : PySem.Str := Str.ofString "v" ++ d.asked free ++ Str.ofString "!" ++ markT d.mark
noncomputable def Nd.shape (d : Nd) (leaf : Bool) : PySem.Str := if leaf && d.wish then Str.ofString "" else fmtT d.j
noncomputable def Nd.midEv (d : Nd) (u : PySem.Str) : List Ev := if d.mid then [.piece u] else []
noncomputable def Nd.midT (d : Nd) : PySem.Str := if d.mid then Str.ofString "mid" else Str.ofString ""
noncomputable def Nd.pre (d : Nd) (u : PySem.Str) (free : Nat) : List Ev := d.midEv u ++ [.piece u, .get (d.asked free), .convert (Str.ofString "v" ++ d.asked free) d.mark]
noncomputable def Nd.pcs (d : Nd) (shape : PySem.Str) : List Pc := (if d.mid then [⟨some (Str.ofString "mid"), none, none, none⟩] else []) ++ [⟨d.lit, some d.name, some shape, d.mark⟩]
noncomputable def shown (v t : PySem.Str) : PySem.Str := Str.ofString "<" ++ v ++ Str.ofString ":" ++ t ++ Str.ofString ">"

theorem sapp_assoc (a b c : PySem.Str) : a ++ b ++ c = a ++ (b ++ c) := by
  show (⟨(a.cps ++ b.cps) ++ c.cps⟩ : PySem.Str) = ⟨a.cps ++ (b.cps ++ c.cps)⟩
  rw [Array.append_assoc]
theorem sapp_nil (a : PySem.Str) : a ++ Str.ofString "" = a := by
  have e : (Str.ofString "").cps = #[] := by decide +kernel
  cases a
  show (⟨_ ++ (Str.ofString "").cps⟩ : PySem.Str) = _
  rw [e, Array.append_empty]
theorem snil_app (a : PySem.Str) : Str.ofString "" ++ a = a := by
  have e : (Str.ofString "").cps = #[] := by decide +kernel
  cases a
  show (⟨(Str.ofString "").cps ++ _⟩ : PySem.Str) = _
  rw [e, Array.empty_append]

/-- what a frame's run over some trees does: all events, the place of the fault in them, the text, the next free number -/
structure Rs where
  ev : List Ev
  cut : Option Nat
  out : PySem.Str
  free : Nat
noncomputable def orCut (a b : Option Nat) : Option Nat := match a with
  | some n => some n
  | none => b
mutual
noncomputable def resT (en : PySem.Str) (dep : Int) (u : PySem.Str) : Tree → Nat → Rs
  | .node d kids, free =>
    let sh := d.shape kids.isEmpty
    let r := resF en (dep - 1) sh kids (d.next free)
    ⟨d.pre u free ++ [.parse sh] ++ r.ev ++ [.piece sh, .format (d.value free) (r.out ++ en)],
      if dep - 1 < 0 then some (d.pre u free).length else r.cut.map (· + ((d.pre u free).length + 1)),
      d.midT ++ litT d.lit ++ shown (d.value free) (r.out ++ en), r.free⟩
noncomputable def resF (en : PySem.Str) (dep : Int) (u : PySem.Str) : List Tree → Nat → Rs
  | [], free => ⟨[], none, Str.ofString "", free⟩
  | t :: ts, free =>
    let a := resT en dep u t free
    let b := resF en dep u ts a.free
    ⟨a.ev ++ b.ev, orCut a.cut (b.cut.map (· + a.ev.length)), a.out ++ b.out, b.free⟩
end

/-- where the law's loop stands -/
structure Sl where
  P : List (PySem.Str × List Pc)
  due : List Ev
  fault : Option Nat
  free : Nat
  under : List PySem.Str
  shown : List PySem.Str
  texts : List PySem.Str
noncomputable def addP (P : List (PySem.Str × List Pc)) (u : PySem.Str) (l : List Pc) : List (PySem.Str × List Pc) := P.map fun x => if x.1 = u then (x.1, x.2 ++ l) else x
noncomputable def newP (P : List (PySem.Str × List Pc)) (sh : PySem.Str) : List (PySem.Str × List Pc) := if sh = Str.ofString "" then P else P ++ [(sh, [])]
noncomputable def push (depth : Int) (lv : Nat) (d : Nd) (sh : PySem.Str) (S : Sl) : Sl := match S.under, S.texts with
  | u :: U, t :: T =>
    { P := newP (addP S.P u (d.pcs sh)) sh
      due := S.due ++ d.pre u S.free ++ [.parse sh]
      fault := orCut S.fault (if (lv : Int) > depth then some (S.due ++ d.pre u S.free).length else none)
      free := d.next S.free
      under := sh :: u :: U
      shown := d.value S.free :: S.shown
      texts := Str.ofString "" :: (t ++ d.midT ++ litT d.lit) :: T }
  | _, _ => S
noncomputable def endP (en : PySem.Str) (P : List (PySem.Str × List Pc)) (u : PySem.Str) : List (PySem.Str × List Pc) := if u = Str.ofString "" then P else addP P u [⟨some en, none, none, none⟩]
noncomputable def pop1 (en : PySem.Str) (S : Sl) : Sl := match S.under, S.shown, S.texts with
  | u :: U, v :: X, t :: t' :: T =>
    { P := endP en S.P u
      due := S.due ++ [.piece u, .format v (t ++ en)]
      fault := S.fault
      free := S.free
      under := U
      shown := X
      texts := (t' ++ Mine.shown v (t ++ en)) :: T }
  | _, _, _ => S
noncomputable def popN (en : PySem.Str) : Nat → Sl → Sl
  | 0, S => S
  | n + 1, S => popN en n (pop1 en S)
noncomputable def turnP (en : PySem.Str) (depth : Int) (S : Sl) (a : Nd × Nat) (below : Nat) : Sl := popN en (a.2 + 1 - below) (push depth a.2 a.1 (a.1.shape (decide (below ≤ a.2))) S)
noncomputable def belowOf (after : Nat) : List (Nd × Nat) → Nat
  | [] => after
  | b :: _ => b.2
noncomputable def turns (en : PySem.Str) (depth : Int) (after : Nat) : List (Nd × Nat) → Sl → Sl
  | [], S => S
  | a :: r, S => turns en depth after r (turnP en depth S a (belowOf after r))
mutual
noncomputable def flatT (L : Nat) : Tree → List (Nd × Nat)
  | .node d kids => (d, L) :: flatF (L + 1) kids
noncomputable def flatF (L : Nat) : List Tree → List (Nd × Nat)
  | [] => []
  | t :: ts => flatT L t ++ flatF L ts
end
mutual
noncomputable def execT (en : PySem.Str) (depth : Int) (L : Nat) : Tree → Sl → Sl
  | .node d kids, S => pop1 en (execF en depth (L + 1) kids (push depth L d (d.shape kids.isEmpty) S))
noncomputable def execF (en : PySem.Str) (depth : Int) (L : Nat) : List Tree → Sl → Sl
  | [], S => S
  | t :: ts, S => execF en depth L ts (execT en depth L t S)
end

/-- each list of levels that goes down at most by one at a time is a forest -/
inductive Steps : List (Nd × Nat) → Prop
  | nil : Steps []
  | one (a) : Steps [a]
  | cons (a b r) : b.2 ≤ a.2 + 1 → Steps (b :: r) → Steps (a :: b :: r)
theorem Steps.tail {a : Nd × Nat} {r : List (Nd × Nat)} (h : Steps (a :: r)) : Steps r := by
  cases h with
  | one => exact .nil
  | cons _ b r' _ h => exact h
theorem Steps.left : ∀ {l r : List (Nd × Nat)}, Steps (l ++ r) → Steps l
  | [], _, _ => .nil
  | [a], _, _ => .one a
  | a :: b :: l, r, h => by
    cases h with
    | cons _ _ _ h1 h2 => exact .cons a b l h1 (Steps.left (l := b :: l) h2)
theorem Steps.right : ∀ {l r : List (Nd × Nat)}, Steps (l ++ r) → Steps r
  | [], _, h => h
  | _ :: l, _, h => Steps.right (l := l) h.tail
theorem mem_tw {α : Type} {p : α → Bool} : ∀ {l : List α} {x : α}, x ∈ l.takeWhile p → p x = true
  | [], _, h => by simp at h
  | a :: l, x, h => by
    rw [List.takeWhile_cons] at h
    by_cases ha : p a = true
    · rw [if_pos ha] at h
      rcases List.mem_cons.mp h with rfl | h
      · exact ha
      · exact mem_tw h
    · rw [if_neg ha] at h; cases h
theorem forest_of (n : Nat) : ∀ (L : Nat) (ns : List (Nd × Nat)), ns.length ≤ n → Steps ns → (∀ a ∈ ns, L ≤ a.2) → (∀ a r, ns = a :: r → a.2 = L) → ∃ ts, flatF L ts = ns := by
  induction n with
  | zero =>
    intro L ns hn _ _ _
    cases ns with
    | nil => exact ⟨[], by rw [flatF]⟩
    | cons a r => simp at hn
  | succ n ih =>
    intro L ns hn hs hge hhd
    cases ns with
    | nil => exact ⟨[], by rw [flatF]⟩
    | cons a r =>
      have ha : a.2 = L := hhd a r rfl
      have hsplit : r.takeWhile (fun b => decide (L < b.2)) ++ r.dropWhile (fun b => decide (L < b.2)) = r := List.takeWhile_append_dropWhile
      have hlen : r.length ≤ n := by simpa using hn
      have hlen2 : (r.takeWhile (fun b => decide (L < b.2))).length + (r.dropWhile (fun b => decide (L < b.2))).length = r.length := by rw [← List.length_append, hsplit]
      obtain ⟨t1, h1⟩ := ih (L + 1) (r.takeWhile (fun b => decide (L < b.2))) (by omega) (Steps.left (r := r.dropWhile (fun b => decide (L < b.2))) (by rw [hsplit]; exact hs.tail))
        (fun b hb => by
          have := mem_tw hb
          have h5 : L < b.2 := by simpa using this
          omega) (fun b q e => by
          have h2 := mem_tw (p := fun b : Nd × Nat => decide (L < b.2)) (l := r) (x := b) (by rw [e]; exact .head _)
          have h3 : L < b.2 := by simpa using h2
          have h4 : b.2 ≤ a.2 + 1 := by
            rw [← hsplit, e] at hs
            cases hs with
            | cons _ _ _ h _ => exact h
          omega)
      obtain ⟨t2, h2⟩ := ih L (r.dropWhile (fun b => decide (L < b.2))) (by omega) (Steps.right (l := r.takeWhile (fun b => decide (L < b.2))) (by rw [hsplit]; exact hs.tail))
        (fun b hb => hge b (.tail _ (by rw [← hsplit]; exact List.mem_append_right _ hb))) (fun b q e => by
          have hb : b ∈ r := by rw [← hsplit, e]; exact List.mem_append_right _ (.head _)
          have h3 := hge b (.tail _ hb)
          have h4 : ¬ (L < b.2) := by
            have := List.head?_dropWhile_not (fun b : Nd × Nat => decide (L < b.2)) r
            rw [e] at this
            simpa using this
          omega)
      refine ⟨.node a.1 t1 :: t2, ?_⟩
      rw [flatF, flatT, h1, h2, List.cons_append, hsplit, ← ha]

theorem popN_succ (en : PySem.Str) (n : Nat) (S : Sl) : popN en (n + 1) S = popN en n (pop1 en S) := rfl
theorem turns_app (en : PySem.Str) (depth : Int) (after : Nat) (ys : List (Nd × Nat)) : ∀ (xs : List (Nd × Nat)) (S : Sl), turns en depth after (xs ++ ys) S = turns en depth after ys (turns en depth (belowOf after ys) xs S)
  | [], S => rfl
  | a :: r, S => by
    rw [List.cons_append, turns, turns, turns_app en depth after ys r]
    have e : belowOf after (r ++ ys) = belowOf (belowOf after ys) r := by cases r <;> rfl
    rw [e]
theorem below_flat (L after : Nat) : ∀ ts : List Tree, ts ≠ [] → belowOf after (flatF L ts) = L
  | [], h => absurd rfl h
  | .node d kids :: ts, _ => by rw [flatF, flatT]; rfl
mutual
theorem turns_T (en : PySem.Str) (depth : Int) : ∀ (t : Tree) (L after : Nat) (S : Sl), after ≤ L → turns en depth after (flatT L t) S = popN en (L - after) (execT en depth L t S)
  | .node d kids, L, after, S, h => by
    rw [flatT, turns, execT]
    cases kids with
    | nil =>
      rw [flatF, belowOf, turns, turnP, execF]
      have e : L + 1 - after = (L - after) + 1 := by omega
      simp only [e, popN_succ, decide_eq_true h, List.isEmpty_nil]
    | cons k ks =>
      rw [below_flat (L + 1) after (k :: ks) (by simp), turnP]
      have e1 : decide (L + 1 ≤ L) = false := decide_eq_false (by omega)
      have e2 : (d, L).2 + 1 - (L + 1) = 0 := by show L + 1 - (L + 1) = 0; omega
      rw [e2, popN, turns_F en depth (k :: ks) (by simp) (L + 1) after _ (by omega)]
      have e3 : L + 1 - after = (L - after) + 1 := by omega
      rw [e3, popN_succ]
      show popN en (L - after) (pop1 en (execF en depth (L + 1) (k :: ks) (push depth L d (d.shape (decide (L + 1 ≤ L))) S))) = _
      rw [e1]
      rfl
theorem turns_F (en : PySem.Str) (depth : Int) : ∀ (ts : List Tree), ts ≠ [] → ∀ (L after : Nat) (S : Sl), after ≤ L → turns en depth after (flatF L ts) S = popN en (L - after) (execF en depth L ts S)
  | [], h, _, _, _, _ => absurd rfl h
  | t :: ts, _, L, after, S, h => by
    rw [flatF, turns_app, execF]
    cases ts with
    | nil =>
      rw [flatF, belowOf, turns, execF, turns_T en depth t L after S h]
    | cons t' ts' =>
      rw [below_flat L after (t' :: ts') (by simp), turns_T en depth t L L S (Nat.le_refl _), Nat.sub_self, popN, turns_F en depth (t' :: ts') (by simp) L after _ h]
end

structure At (S : Sl) (u : PySem.Str) (U X : List PySem.Str) (t : PySem.Str) (T : List PySem.Str) : Prop where
  under : S.under = u :: U
  shown : S.shown = X
  texts : S.texts = t :: T
theorem orCut_assoc (a b c : Option Nat) : orCut (orCut a b) c = orCut a (orCut b c) := by cases a <;> rfl
theorem orCut_map (f : Nat → Nat) (a b : Option Nat) : (orCut a b).map f = orCut (a.map f) (b.map f) := by cases a <;> rfl
theorem push_at {depth : Int} {L : Nat} {d : Nd} {sh : PySem.Str} {S : Sl} {u : PySem.Str} {U X : List PySem.Str} {t : PySem.Str} {T : List PySem.Str} (h : At S u U X t T) :
    push depth L d sh S = ⟨newP (addP S.P u (d.pcs sh)) sh, S.due ++ d.pre u S.free ++ [.parse sh], orCut S.fault (if (L : Int) > depth then some (S.due ++ d.pre u S.free).length else none), d.next S.free, sh :: u :: U, d.value S.free :: X, Str.ofString "" :: (t ++ d.midT ++ litT d.lit) :: T⟩ := by
  obtain ⟨h1, h2, h3⟩ := h
  unfold push
  rw [h1, h3]
  simp only [h2]
theorem pop_at {en : PySem.Str} {S : Sl} {u v : PySem.Str} {U X : List PySem.Str} {t t' : PySem.Str} {T : List PySem.Str} (h : At S u U (v :: X) t (t' :: T)) :
    pop1 en S = ⟨endP en S.P u, S.due ++ [.piece u, .format v (t ++ en)], S.fault, S.free, U, X, (t' ++ shown v (t ++ en)) :: T⟩ := by
  obtain ⟨h1, h2, h3⟩ := h
  unfold pop1
  rw [h1, h2, h3]
/-- what a run over trees makes of the state, but for the pieces -/
structure Did (S S' : Sl) (u : PySem.Str) (U X : List PySem.Str) (t : PySem.Str) (T : List PySem.Str) (r : Rs) : Prop where
  at_ : At S' u U X (t ++ r.out) T
  due : S'.due = S.due ++ r.ev
  fault : S'.fault = orCut S.fault (r.cut.map (· + S.due.length))
  free : S'.free = r.free
mutual
theorem execT_did (en : PySem.Str) (depth : Int) : ∀ (tr : Tree) (L : Nat) (S : Sl) (u : PySem.Str) (U X : List PySem.Str) (t : PySem.Str) (T : List PySem.Str), At S u U X t T → Did S (execT en depth L tr S) u U X t T (resT en (depth - ((L : Int) - 1)) u tr S.free)
  | .node d kids, L, S, u, U, X, t, T, h => by
    have hp := push_at (depth := depth) (L := L) (d := d) (sh := d.shape kids.isEmpty) h
    rw [execT, resT]
    have hd : depth - ((L : Int) - 1) - 1 = depth - (((L + 1 : Nat) : Int) - 1) := by omega
    have k := execF_did en depth kids (L + 1) (push depth L d (d.shape kids.isEmpty) S) (d.shape kids.isEmpty) (u :: U) (d.value S.free :: X) (Str.ofString "") ((t ++ d.midT ++ litT d.lit) :: T) (by rw [hp]; exact ⟨rfl, rfl, rfl⟩)
    have eD : (push depth L d (d.shape kids.isEmpty) S).due = S.due ++ d.pre u S.free ++ [.parse (d.shape kids.isEmpty)] := by rw [hp]
    have eF : (push depth L d (d.shape kids.isEmpty) S).fault = orCut S.fault (if (L : Int) > depth then some (S.due ++ d.pre u S.free).length else none) := by rw [hp]
    have eN : (push depth L d (d.shape kids.isEmpty) S).free = d.next S.free := by rw [hp]
    rw [eN] at k
    rw [hd]
    generalize execF en depth (L + 1) kids (push depth L d (d.shape kids.isEmpty) S) = S1 at k
    obtain ⟨k1, k2, k3, k4⟩ := k
    rw [snil_app] at k1
    rw [pop_at k1]
    generalize resF en (depth - (((L + 1 : Nat) : Int) - 1)) (d.shape kids.isEmpty) kids (d.next S.free) = r at k1 k2 k3 k4
    refine ⟨⟨rfl, rfl, ?_⟩, ?_, ?_, k4⟩
    · show (_ : PySem.Str) :: T = _
      simp only [sapp_assoc]
    · show S1.due ++ _ = _
      rw [k2, eD]
      simp only [List.append_assoc]
    · show S1.fault = _
      rw [k3, eF, eD, orCut_assoc]
      by_cases hc : (L : Int) > depth
      · have hc' : depth - (((L + 1 : Nat) : Int) - 1) < 0 := by omega
        rw [if_pos hc, if_pos hc', Option.map_some, List.length_append, Nat.add_comm S.due.length]
        rfl
      · have hc' : ¬ depth - (((L + 1 : Nat) : Int) - 1) < 0 := by omega
        rw [if_neg hc, if_neg hc', Option.map_map]
        show orCut S.fault (r.cut.map _) = _
        refine congrArg (fun f => orCut S.fault (Option.map f r.cut)) ?_
        funext n
        simp only [List.length_append, List.length_cons, List.length_nil, Function.comp_apply]
        omega
theorem execF_did (en : PySem.Str) (depth : Int) : ∀ (ts : List Tree) (L : Nat) (S : Sl) (u : PySem.Str) (U X : List PySem.Str) (t : PySem.Str) (T : List PySem.Str), At S u U X t T → Did S (execF en depth L ts S) u U X t T (resF en (depth - ((L : Int) - 1)) u ts S.free)
  | [], L, S, u, U, X, t, T, h => by
    rw [execF, resF]
    exact ⟨⟨h.under, h.shown, by rw [sapp_nil]; exact h.texts⟩, by simp, by simp only [Option.map_none]; cases S.fault <;> rfl, rfl⟩
  | tr :: ts, L, S, u, U, X, t, T, h => by
    have a := execT_did en depth tr L S u U X t T h
    rw [execF, resF]
    generalize execT en depth L tr S = S1 at a
    generalize resT en (depth - ((L : Int) - 1)) u tr S.free = ra at a
    obtain ⟨a1, a2, a3, a4⟩ := a
    have b := execF_did en depth ts L S1 u U X _ T a1
    rw [a4] at b
    generalize execF en depth L ts S1 = S2 at b
    generalize resF en (depth - ((L : Int) - 1)) u ts ra.free = rb at b
    obtain ⟨b1, b2, b3, b4⟩ := b
    refine ⟨⟨b1.under, b1.shown, by rw [b1.texts]; simp only [sapp_assoc]⟩, by rw [b2, a2]; simp only [List.append_assoc], ?_, b4⟩
    rw [b3, a3, a2, orCut_assoc, orCut_map, Option.map_map]
    refine congrArg (fun f => orCut S.fault (orCut _ (Option.map f rb.cut))) ?_
    funext n
    simp only [List.length_append, Function.comp_apply]
    omega
end
-- part P2
mutual
noncomputable def idsT : Tree → List Nat
  | .node d kids => d.j :: idsF kids
noncomputable def idsF : List Tree → List Nat
  | [] => []
  | t :: ts => idsT t ++ idsF ts
end
noncomputable def pcsT : Tree → List Pc
  | .node d kids => d.pcs (d.shape kids.isEmpty)
noncomputable def pcsF : List Tree → List Pc
  | [] => []
  | t :: ts => pcsT t ++ pcsF ts
noncomputable def endPc (en : PySem.Str) : Pc := ⟨some en, none, none, none⟩
mutual
/-- the pieces tell of the tree -/
noncomputable def EncT (en : PySem.Str) (P : List (PySem.Str × List Pc)) : Tree → Prop
  | .node d kids => P.lookup (d.shape kids.isEmpty) = some (pcsF kids ++ [endPc en]) ∧ EncF en P kids
noncomputable def EncF (en : PySem.Str) (P : List (PySem.Str × List Pc)) : List Tree → Prop
  | [] => True
  | t :: ts => EncT en P t ∧ EncF en P ts
end
theorem lk_add (P : List (PySem.Str × List Pc)) (u k : PySem.Str) (l : List Pc) : (addP P u l).lookup k = if k = u then (P.lookup k).map (· ++ l) else P.lookup k := by
  unfold addP
  induction P with
  | nil => simp
  | cons a P ih =>
    obtain ⟨x, y⟩ := a
    by_cases hx : x = u
    · subst hx
      by_cases hk : k = x
      · subst hk; simp
      · have : (k == x) = false := by simpa using hk
        simp only [List.map_cons, if_true, List.lookup_cons, this, ih, if_neg hk]
    · by_cases hk : k = x
      · subst hk; simp [hx]
      · have h1 : (k == x) = false := by simpa using hk
        simp only [List.map_cons, if_neg hx, List.lookup_cons, h1, ih]
theorem lk_snoc (P : List (PySem.Str × List Pc)) (sh k : PySem.Str) (l : List Pc) (h : P.lookup sh = none) : (P ++ [(sh, l)]).lookup k = if k = sh then some l else P.lookup k := by
  induction P with
  | nil =>
    by_cases hk : k = sh
    · subst hk; simp
    · have : (k == sh) = false := by simpa using hk
      simp [List.lookup_cons, this, hk]
  | cons a P ih =>
    obtain ⟨x, y⟩ := a
    rw [List.lookup_cons] at h
    by_cases hx : (sh == x) = true
    · rw [hx] at h; cases h
    · have hx' : (sh == x) = false := by simpa using hx
      rw [hx'] at h
      have ih := ih h
      rw [List.cons_append, List.lookup_cons, List.lookup_cons, ih]
      by_cases hk : (k == x) = true
      · have e : k = x := by simpa using hk
        subst e
        have : ¬ k = sh := fun e => by rw [e] at hx'; simp at hx'
        simp [this]
      · have hk' : (k == x) = false := by simpa using hk
        rw [hk']
theorem fmt_ne : ∀ j, fmtT j ≠ Str.ofString "" := fun j e => by
  have h := congrArg PySem.Str.length e
  have e1 : (Str.ofString "format").length = 6 := by decide +kernel
  have e2 : (Str.ofString "").length = 0 := by decide +kernel
  rw [fmtT, PySem.Str.length_append, e1, e2] at h
  omega
theorem fmt_inj : ∀ i, i < 65 → ∀ j, j < 65 → fmtT i = fmtT j → i = j := by decide +kernel
mutual
theorem EncT_stable {en : PySem.Str} {P P' : List (PySem.Str × List Pc)} : ∀ {t : Tree}, P'.lookup (Str.ofString "") = P.lookup (Str.ofString "") → (∀ j ∈ idsT t, P'.lookup (fmtT j) = P.lookup (fmtT j)) → EncT en P t → EncT en P' t
  | .node d kids, h0, h1, h => by
    rw [EncT] at h ⊢
    refine ⟨?_, EncF_stable h0 (fun j hj => h1 j (by rw [idsT]; exact .tail _ hj)) h.2⟩
    rw [← h.1]
    unfold Nd.shape
    split
    · exact h0
    · exact h1 _ (by rw [idsT]; exact .head _)
theorem EncF_stable {en : PySem.Str} {P P' : List (PySem.Str × List Pc)} : ∀ {ts : List Tree}, P'.lookup (Str.ofString "") = P.lookup (Str.ofString "") → (∀ j ∈ idsF ts, P'.lookup (fmtT j) = P.lookup (fmtT j)) → EncF en P ts → EncF en P' ts
  | [], _, _, _ => by rw [EncF]; trivial
  | t :: ts, h0, h1, h => by
    rw [EncF] at h ⊢
    exact ⟨EncT_stable h0 (fun j hj => h1 j (by rw [idsF]; exact List.mem_append_left _ hj)) h.1, EncF_stable h0 (fun j hj => h1 j (by rw [idsF]; exact List.mem_append_right _ hj)) h.2⟩
end
/-- what stands before trees are run at u -/
structure Rdy (en : PySem.Str) (P : List (PySem.Str × List Pc)) (u : PySem.Str) (ids : List Nat) : Prop where
  top : (P.lookup u).isSome = true
  empty : P.lookup (Str.ofString "") = some [endPc en]
  fresh : ∀ j ∈ ids, P.lookup (fmtT j) = none
  nodup : ids.Nodup
  small : ∀ j ∈ ids, j < 65
theorem Rdy.ne {en : PySem.Str} {P : List (PySem.Str × List Pc)} {u : PySem.Str} {ids : List Nat} (h : Rdy en P u ids) {j : Nat} (hj : j ∈ ids) : fmtT j ≠ u := fun e => by
  have := h.top; rw [← e, h.fresh j hj] at this; cases this
mutual
theorem execT_enc (en : PySem.Str) (depth : Int) : ∀ (tr : Tree) (L : Nat) (S : Sl) (u : PySem.Str) (U X : List PySem.Str) (t : PySem.Str) (T : List PySem.Str), At S u U X t T → Rdy en S.P u (idsT tr) → u ≠ Str.ofString "" →
    (∀ k, (∀ j ∈ idsT tr, k ≠ fmtT j) → (execT en depth L tr S).P.lookup k = if k = u then (S.P.lookup k).map (· ++ pcsT tr) else S.P.lookup k) ∧ EncT en (execT en depth L tr S).P tr
  | .node d kids, L, S, u, U, X, t, T, h, hr, hu => by
    have hp := push_at (depth := depth) (L := L) (d := d) (sh := d.shape kids.isEmpty) h
    have hP : (push depth L d (d.shape kids.isEmpty) S).P = newP (addP S.P u (d.pcs (d.shape kids.isEmpty))) (d.shape kids.isEmpty) := by rw [hp]
    have hat : At (push depth L d (d.shape kids.isEmpty) S) (d.shape kids.isEmpty) (u :: U) (d.value S.free :: X) (Str.ofString "") ((t ++ d.midT ++ litT d.lit) :: T) := by rw [hp]; exact ⟨rfl, rfl, rfl⟩
    have hj : d.j ∈ idsT (.node d kids) := by rw [idsT]; exact .head _
    have hks : ∀ j ∈ idsF kids, j ∈ idsT (.node d kids) := fun j hj => by rw [idsT]; exact .tail _ hj
    rw [execT, pcsT]
    have k1 := (execF_did en depth kids (L + 1) _ _ _ _ _ _ hat).at_
    by_cases hs : d.shape kids.isEmpty = Str.ofString ""
    · have hk : kids = [] := by
        cases kids with
        | nil => rfl
        | cons a b => exact absurd hs (by unfold Nd.shape; rw [if_neg (by simp)]; exact fmt_ne _)
      subst hk
      rw [execF] at k1 ⊢
      rw [pop_at hat]
      have hP' : endP en (push depth L d (d.shape ([] : List Tree).isEmpty) S).P (d.shape ([] : List Tree).isEmpty) = addP S.P u (d.pcs (d.shape ([] : List Tree).isEmpty)) := by
        rw [endP, if_pos hs, hP, newP, if_pos hs]
      refine ⟨fun k _ => ?_, ?_⟩
      · show (endP _ _ _).lookup k = _
        rw [hP', lk_add]
      · rw [EncT]
        refine ⟨?_, by rw [EncF]; trivial⟩
        show (endP _ _ _).lookup _ = _
        rw [hP', lk_add, hs, if_neg (Ne.symm hu), hr.empty]
        rfl
    · have hsh : d.shape kids.isEmpty = fmtT d.j := by
        unfold Nd.shape at hs ⊢
        split
        · rename_i q; rw [if_pos q] at hs; exact absurd rfl hs
        · rfl
      rw [hsh] at hP hat k1 ⊢
      have hne : fmtT d.j ≠ u := hr.ne hj
      have hP1 : ∀ k, (push depth L d (fmtT d.j) S).P.lookup k = if k = fmtT d.j then some [] else if k = u then (S.P.lookup k).map (· ++ d.pcs (fmtT d.j)) else S.P.lookup k := fun k => by
        rw [hP, newP, if_neg (fmt_ne _), lk_snoc _ _ _ _ (by rw [lk_add, if_neg hne]; exact hr.fresh _ hj), lk_add]
      have nd := hr.nodup
      rw [idsT] at nd
      have nd' := List.nodup_cons.mp nd
      have hother : ∀ j ∈ idsF kids, fmtT j ≠ fmtT d.j := fun j hjk e => nd'.1 (by rw [← fmt_inj _ (hr.small _ (hks j hjk)) _ (hr.small _ hj) e]; exact hjk)
      have hr' : Rdy en (push depth L d (fmtT d.j) S).P (fmtT d.j) (idsF kids) := {
        top := by rw [hP1, if_pos rfl]; rfl
        empty := by rw [hP1, if_neg (Ne.symm (fmt_ne _)), if_neg (Ne.symm hu)]; exact hr.empty
        fresh := fun j hjk => by rw [hP1, if_neg (hother j hjk), if_neg (hr.ne (hks j hjk))]; exact hr.fresh j (hks j hjk)
        nodup := nd'.2
        small := fun j hjk => hr.small j (hks j hjk) }
      have K := execF_enc en depth kids (L + 1) _ _ _ _ _ _ hat hr' (fun _ => fmt_ne _)
      generalize execF en depth (L + 1) kids (push depth L d (fmtT d.j) S) = S1 at K k1
      rw [pop_at k1]
      have hE : ∀ k, (endP en S1.P (fmtT d.j)).lookup k = if k = fmtT d.j then (S1.P.lookup k).map (· ++ [endPc en]) else S1.P.lookup k := fun k => by
        rw [endP, if_neg (fmt_ne _), lk_add]; rfl
      have hself := K.1 (fmtT d.j) (fun j hjk => Ne.symm (hother j hjk))
      rw [if_pos rfl, hP1, if_pos rfl] at hself
      refine ⟨fun k hk => ?_, ?_⟩
      · show (endP en S1.P (fmtT d.j)).lookup k = _
        have h1 : k ≠ fmtT d.j := hk _ hj
        rw [hE, if_neg h1, K.1 k (fun j hjk => hk j (hks j hjk)), if_neg h1, hP1, if_neg h1]
      · rw [EncT]
        refine ⟨?_, ?_⟩
        · show (endP en S1.P (fmtT d.j)).lookup (d.shape kids.isEmpty) = _
          rw [hsh, hE, if_pos rfl, hself]
          rfl
        · show EncF en (endP en S1.P (fmtT d.j)) kids
          exact EncF_stable (by rw [hE, if_neg (Ne.symm (fmt_ne _))]) (fun j hjk => by rw [hE, if_neg (hother j hjk)]) K.2
theorem execF_enc (en : PySem.Str) (depth : Int) : ∀ (ts : List Tree) (L : Nat) (S : Sl) (u : PySem.Str) (U X : List PySem.Str) (t : PySem.Str) (T : List PySem.Str), At S u U X t T → Rdy en S.P u (idsF ts) → (ts ≠ [] → u ≠ Str.ofString "") →
    (∀ k, (∀ j ∈ idsF ts, k ≠ fmtT j) → (execF en depth L ts S).P.lookup k = if k = u then (S.P.lookup k).map (· ++ pcsF ts) else S.P.lookup k) ∧ EncF en (execF en depth L ts S).P ts
  | [], L, S, u, U, X, t, T, h, hr, hu => by
    rw [execF, pcsF]
    refine ⟨fun k _ => ?_, by rw [EncF]; trivial⟩
    split
    · cases S.P.lookup k <;> simp
    · rfl
  | tr :: ts, L, S, u, U, X, t, T, h, hr, hu => by
    have hu' := hu (by simp)
    have m1 : ∀ j ∈ idsT tr, j ∈ idsF (tr :: ts) := fun j hj => by rw [idsF]; exact List.mem_append_left _ hj
    have m2 : ∀ j ∈ idsF ts, j ∈ idsF (tr :: ts) := fun j hj => by rw [idsF]; exact List.mem_append_right _ hj
    have nd := hr.nodup
    rw [idsF] at nd
    obtain ⟨nd1, nd2, nd3⟩ := List.nodup_append.mp nd
    have A := execT_enc en depth tr L S u U X t T h ⟨hr.top, hr.empty, fun j hj => hr.fresh j (m1 j hj), nd1, fun j hj => hr.small j (m1 j hj)⟩ hu'
    have a1 := (execT_did en depth tr L S u U X t T h).at_
    rw [execF, pcsF]
    generalize execT en depth L tr S = S1 at A a1
    have hother : ∀ j ∈ idsF ts, ∀ i ∈ idsT tr, fmtT j ≠ fmtT i := fun j hj i hi e => nd3 i hi j hj (fmt_inj _ (hr.small _ (m1 i hi)) _ (hr.small _ (m2 j hj)) e.symm)
    have hu1 : S1.P.lookup u = (S.P.lookup u).map (· ++ pcsT tr) := by rw [A.1 u (fun j hj => Ne.symm (hr.ne (m1 j hj))), if_pos rfl]
    have hr1 : Rdy en S1.P u (idsF ts) := {
      top := by rw [hu1]; have := hr.top; cases q : S.P.lookup u with
        | none => rw [q] at this; cases this
        | some x => rfl
      empty := by rw [A.1 _ (fun j _ => Ne.symm (fmt_ne j)), if_neg (Ne.symm hu')]; exact hr.empty
      fresh := fun j hj => by rw [A.1 _ (hother j hj), if_neg (hr.ne (m2 j hj))]; exact hr.fresh j (m2 j hj)
      nodup := nd2
      small := fun j hj => hr.small j (m2 j hj) }
    have B := execF_enc en depth ts L S1 u U X _ T a1 hr1 (fun _ => hu')
    generalize execF en depth L ts S1 = S2 at B
    refine ⟨fun k hk => ?_, ?_⟩
    · rw [B.1 k (fun j hj => hk j (m2 j hj)), A.1 k (fun j hj => hk j (m1 j hj))]
      split
      · cases S.P.lookup k <;> simp [List.append_assoc]
      · rfl
    · rw [EncF]
      refine ⟨EncT_stable ?_ (fun j hj => ?_) A.2, B.2⟩
      · rw [B.1 _ (fun j _ => Ne.symm (fmt_ne j)), if_neg (Ne.symm hu')]
      · rw [B.1 _ (fun i hi => Ne.symm (hother i hi j hj)), if_neg (hr.ne (m1 j hj))]
end
-- part P3
mutual
theorem ids_flatT : ∀ (t : Tree) (L : Nat), (flatT L t).map (fun a => a.1.j) = idsT t
  | .node d kids, L => by rw [flatT, idsT, List.map_cons, ids_flatF kids (L + 1)]
theorem ids_flatF : ∀ (ts : List Tree) (L : Nat), (flatF L ts).map (fun a => a.1.j) = idsF ts
  | [], L => by rw [flatF, idsF]; rfl
  | t :: ts, L => by rw [flatF, idsF, List.map_append, ids_flatT t L, ids_flatF ts L]
end
noncomputable def topT : PySem.Str := Str.ofString "top"
noncomputable def S0 (en : PySem.Str) (depth : Int) : Sl where
  P := [(topT, []), (Str.ofString "", [endPc en])]
  due := [.parse topT]
  fault := if depth ≥ 0 then none else some 0
  free := 0
  under := [topT]
  shown := []
  texts := [Str.ofString ""]
theorem top_ne : topT ≠ Str.ofString "" := by decide +kernel
theorem top_fmt : ∀ j, topT ≠ fmtT j := fun j e => by
  have h := congrArg PySem.Str.length e
  have e1 : (Str.ofString "format").length = 6 := by decide +kernel
  have e2 : topT.length = 3 := by decide +kernel
  rw [fmtT, PySem.Str.length_append, e1, e2] at h
  omega
structure Built (en : PySem.Str) (depth : Int) (ts : List Tree) (S : Sl) : Prop where
  under : S.under = [topT]
  shown : S.shown = []
  texts : S.texts = [(resF en depth topT ts 0).out]
  due : S.due = .parse topT :: (resF en depth topT ts 0).ev
  fault : S.fault = if depth ≥ 0 then (resF en depth topT ts 0).cut.map (· + 1) else some 0
  free : S.free = (resF en depth topT ts 0).free
  top : S.P.lookup topT = some (pcsF ts)
  enc : EncF en S.P ts
/-- the law's loop builds a forest and tells all of it -/
theorem law_built (en : PySem.Str) (depth : Int) (ns : List (Nd × Nat)) (hne : ns ≠ []) (hs : Steps ns) (h1 : ∀ a ∈ ns, 1 ≤ a.2) (hhd : ∀ a r, ns = a :: r → a.2 = 1) (hnd : (ns.map fun a => a.1.j).Nodup) (hsm : ∀ a ∈ ns, a.1.j < 65) :
    ∃ ts, flatF 1 ts = ns ∧ Built en depth ts (turns en depth 1 ns (S0 en depth)) := by
  obtain ⟨ts, hts⟩ := forest_of ns.length 1 ns (Nat.le_refl _) hs h1 hhd
  have hts' : ts ≠ [] := fun e => by rw [e, flatF] at hts; exact hne hts.symm
  have hids : ns.map (fun a => a.1.j) = idsF ts := by rw [← hts, ids_flatF]
  refine ⟨ts, hts, ?_⟩
  rw [← hts, turns_F en depth ts hts' 1 1 _ (Nat.le_refl _), Nat.sub_self, popN]
  have hat : At (S0 en depth) topT [] [] (Str.ofString "") [] := ⟨rfl, rfl, rfl⟩
  have D := execF_did en depth ts 1 (S0 en depth) topT [] [] (Str.ofString "") [] hat
  have e1 : depth - (((1 : Nat) : Int) - 1) = depth := by omega
  rw [e1] at D
  have n1 : Str.ofString "" ≠ topT := Ne.symm top_ne
  have lk : ∀ k, (S0 en depth).P.lookup k = if k = topT then some [] else if k = Str.ofString "" then some [endPc en] else none := fun k => by
    show List.lookup k [(topT, []), (Str.ofString "", [endPc en])] = _
    by_cases a : k = topT
    · subst a; rw [if_pos rfl]; simp
    · have a' : (k == topT) = false := by simpa using a
      rw [if_neg a, List.lookup_cons, a']
      by_cases b : k = Str.ofString ""
      · subst b; simp
      · have b' : (k == Str.ofString "") = false := by simpa using b
        simp only [List.lookup_cons, b', if_neg b]; rfl
  have hr : Rdy en (S0 en depth).P topT (idsF ts) := {
    top := by rw [lk, if_pos rfl]; rfl
    empty := by rw [lk, if_neg n1, if_pos rfl]
    fresh := fun j _ => by rw [lk, if_neg (Ne.symm (top_fmt j)), if_neg (fmt_ne j)]
    nodup := by rw [← hids]; exact hnd
    small := fun j hj => by
      rw [← hids] at hj
      obtain ⟨a, ha, rfl⟩ := List.mem_map.mp hj
      exact hsm a ha }
  have C := execF_enc en depth ts 1 (S0 en depth) topT [] [] (Str.ofString "") [] hat hr (fun _ => top_ne)
  generalize execF en depth 1 ts (S0 en depth) = S at C D
  obtain ⟨⟨d1, d2, d3⟩, d4, d5, d6⟩ := D
  exact {
    under := d1
    shown := d2
    texts := by rw [d3, snil_app]; rfl
    due := by rw [d4]; rfl
    fault := by
      rw [d5]
      show orCut (if depth ≥ 0 then none else some 0) _ = _
      by_cases h : depth ≥ 0
      · rw [if_pos h, if_pos h]; rfl
      · rw [if_neg h, if_neg h]; rfl
    free := d6
    top := by rw [C.1 topT (fun j _ => top_fmt j), if_pos rfl, lk, if_pos rfl]; rfl
    enc := C.2 }
-- part P4
inductive It
  | mid
  | fld (d : Nd) (kids : List Tree)
  | fin
noncomputable def itemsT : Tree → List It
  | .node d kids => (if d.mid then [.mid] else []) ++ [.fld d kids]
noncomputable def itemsF : List Tree → List It
  | [] => []
  | t :: ts => itemsT t ++ itemsF ts
noncomputable def It.pc (en : PySem.Str) : It → Pc
  | .mid => ⟨some (Str.ofString "mid"), none, none, none⟩
  | .fld d kids => ⟨d.lit, some d.name, some (d.shape kids.isEmpty), d.mark⟩
  | .fin => endPc en
theorem items_pcs (en : PySem.Str) : ∀ ts : List Tree, (itemsF ts).map (It.pc en) = pcsF ts
  | [] => rfl
  | .node d kids :: ts => by
    rw [itemsF, pcsF, List.map_append, items_pcs en ts, itemsT, pcsT, Nd.pcs]
    cases d.mid <;> rfl
noncomputable def Rs.seen (r : Rs) : List Ev := match r.cut with
  | none => r.ev
  | some n => r.ev.take n
/-- what a call of _vformat does: the events, and the text with the next number unless it raises -/
noncomputable def callR (en : PySem.Str) (dep : Int) (u : PySem.Str) (ts : List Tree) (free : Nat) : List Ev × Option (PySem.Str × Nat) :=
  if dep < 0 then ([], none) else match (resF en dep u ts free).cut with
    | none => (.parse u :: ((resF en dep u ts free).ev ++ [.piece u]), some ((resF en dep u ts free).out ++ en, (resF en dep u ts free).free))
    | some _ => (.parse u :: (resF en dep u ts free).seen, none)
structure Ac where
  ev : List Ev
  out : PySem.Str
  free : Nat
  live : Bool
noncomputable def fldEv (u : PySem.Str) (d : Nd) (free : Nat) : List Ev := [.piece u, .get (d.asked free), .convert (Str.ofString "v" ++ d.asked free) d.mark]
noncomputable def stepI (en : PySem.Str) (dep : Int) (u : PySem.Str) (a : Ac) (it : It) : Ac :=
  if a.live = false then a else match it with
  | .mid => { a with ev := a.ev ++ [.piece u], out := a.out ++ Str.ofString "mid" }
  | .fin => { a with ev := a.ev ++ [.piece u], out := a.out ++ en }
  | .fld d kids => match callR en (dep - 1) (d.shape kids.isEmpty) kids (d.next a.free) with
    | (ev, some (txt, f)) => ⟨a.ev ++ fldEv u d a.free ++ ev ++ [.format (d.value a.free) txt], a.out ++ litT d.lit ++ shown (d.value a.free) txt, f, true⟩
    | (ev, none) => ⟨a.ev ++ fldEv u d a.free ++ ev, a.out, a.free, false⟩
theorem fold_dead (en : PySem.Str) (dep : Int) (u : PySem.Str) : ∀ (l : List It) (a : Ac), a.live = false → l.foldl (stepI en dep u) a = a
  | [], _, _ => rfl
  | it :: l, a, h => by
    have e : stepI en dep u a it = a := by unfold stepI; rw [if_pos h]
    rw [List.foldl_cons, e]; exact fold_dead en dep u l a h
mutual
theorem cutT_le (en : PySem.Str) : ∀ (t : Tree) (dep : Int) (u : PySem.Str) (free n : Nat), (resT en dep u t free).cut = some n → n ≤ (resT en dep u t free).ev.length
  | .node d kids, dep, u, free, n, h => by
    rw [resT] at h ⊢
    dsimp only at h ⊢
    have k := cutF_le en kids (dep - 1) (d.shape kids.isEmpty) (d.next free)
    generalize resF en (dep - 1) (d.shape kids.isEmpty) kids (d.next free) = r at h k
    simp only [List.length_append, List.length_cons, List.length_nil]
    split at h
    · cases h; omega
    · obtain ⟨m, hm, rfl⟩ := Option.map_eq_some_iff.mp h
      have := k m hm; omega
theorem cutF_le (en : PySem.Str) : ∀ (ts : List Tree) (dep : Int) (u : PySem.Str) (free n : Nat), (resF en dep u ts free).cut = some n → n ≤ (resF en dep u ts free).ev.length
  | [], _, _, _, _, h => by rw [resF] at h; cases h
  | t :: ts, dep, u, free, n, h => by
    rw [resF] at h ⊢
    dsimp only at h ⊢
    have a := cutT_le en t dep u free
    generalize resT en dep u t free = ra at h a
    have b := cutF_le en ts dep u ra.free
    generalize resF en dep u ts ra.free = rb at h b
    rw [List.length_append]
    cases hc : ra.cut with
    | some m => rw [hc] at h; cases h; have := a n hc; omega
    | none =>
      rw [hc] at h
      obtain ⟨m, hm, rfl⟩ := Option.map_eq_some_iff.mp (show rb.cut.map _ = some n from h)
      have := b m hm; omega
end
structure Ran (r : Rs) (a a' : Ac) : Prop where
  ev : a'.ev = a.ev ++ r.seen
  live : a'.live = r.cut.isNone
  out : r.cut = none → a'.out = a.out ++ r.out ∧ a'.free = r.free
theorem ran_T (en : PySem.Str) (dep : Int) (u : PySem.Str) : ∀ (t : Tree) (a : Ac), a.live = true → Ran (resT en dep u t a.free) a ((itemsT t).foldl (stepI en dep u) a)
  | .node d kids, a, h => by
    have hm : (itemsT (.node d kids)).foldl (stepI en dep u) a = stepI en dep u ⟨a.ev ++ d.midEv u, a.out ++ d.midT, a.free, true⟩ (.fld d kids) := by
      obtain ⟨e, o, f, l⟩ := a
      cases h
      rw [itemsT, Nd.midEv, Nd.midT]
      cases d.mid
      · simp only [Bool.false_eq_true, if_false, List.nil_append, List.foldl_cons, List.foldl_nil, List.append_nil, sapp_nil]
      · simp only [if_true, List.cons_append, List.nil_append, List.foldl_cons, List.foldl_nil]
        rfl
    rw [hm, resT]
    unfold stepI
    dsimp only
    rw [if_neg (show ¬ (true = false) by decide), callR]
    have k := cutF_le en kids (dep - 1) (d.shape kids.isEmpty) (d.next a.free)
    generalize resF en (dep - 1) (d.shape kids.isEmpty) kids (d.next a.free) = r at k
    have hpre : d.pre u a.free = d.midEv u ++ fldEv u d a.free := rfl
    by_cases hd : dep - 1 < 0
    · rw [if_pos hd, if_pos hd]
      refine ⟨?_, rfl, fun q => by cases q⟩
      show (a.ev ++ d.midEv u) ++ fldEv u d a.free ++ [] = a.ev ++ List.take _ _
      rw [List.append_assoc (d.pre u a.free), List.append_assoc (d.pre u a.free), List.take_left', List.append_nil, List.append_assoc, hpre]
      rfl
    · rw [if_neg hd, if_neg hd]
      cases hc : r.cut with
      | none =>
        dsimp only
        refine ⟨?_, rfl, fun _ => ⟨by simp only [sapp_assoc], rfl⟩⟩
        show (a.ev ++ d.midEv u) ++ fldEv u d a.free ++ _ ++ _ = a.ev ++ (d.pre u a.free ++ [.parse _] ++ r.ev ++ _)
        rw [hpre]
        simp only [List.append_assoc, List.cons_append, List.nil_append]
      | some n =>
        dsimp only
        refine ⟨?_, rfl, fun q => by cases q⟩
        have hn := k n hc
        show (a.ev ++ d.midEv u) ++ fldEv u d a.free ++ (.parse _ :: r.seen) = a.ev ++ List.take (n + ((d.pre u a.free).length + 1)) _
        have e : (d.pre u a.free ++ [Ev.parse (d.shape kids.isEmpty)] ++ r.ev ++ [Ev.piece (d.shape kids.isEmpty), Ev.format (d.value a.free) (r.out ++ en)]).take (n + ((d.pre u a.free).length + 1)) = d.pre u a.free ++ [Ev.parse (d.shape kids.isEmpty)] ++ r.ev.take n := by
          rw [List.append_assoc (d.pre u a.free ++ _), List.take_append]
          have e1 : (d.pre u a.free ++ [Ev.parse (d.shape kids.isEmpty)]).length = (d.pre u a.free).length + 1 := by simp
          rw [e1, List.take_of_length_le (by rw [e1]; omega), Nat.add_sub_cancel, List.take_append_of_le_length hn]
        rw [e, hpre, Rs.seen, hc]
        simp only [List.append_assoc, List.cons_append, List.nil_append]
theorem ran_F (en : PySem.Str) (dep : Int) (u : PySem.Str) : ∀ (ts : List Tree) (a : Ac), a.live = true → Ran (resF en dep u ts a.free) a ((itemsF ts).foldl (stepI en dep u) a)
  | [], a, h => by
    rw [resF, itemsF]
    exact ⟨by simp [Rs.seen], h, fun _ => ⟨by rw [sapp_nil]; rfl, rfl⟩⟩
  | t :: ts, a, h => by
    have ha := ran_T en dep u t a h
    have ka := cutT_le en t dep u a.free
    rw [resF, itemsF, List.foldl_append]
    generalize resT en dep u t a.free = ra at ha ka
    generalize (itemsT t).foldl (stepI en dep u) a = a1 at ha
    cases hc : ra.cut with
    | some n =>
      have hl : a1.live = false := by rw [ha.live, hc]; rfl
      rw [fold_dead en dep u _ _ hl]
      refine ⟨?_, ?_, fun q => ?_⟩
      · rw [ha.ev, Rs.seen, hc]
        show _ = a.ev ++ List.take n _
        rw [List.take_append_of_le_length (ka n hc)]
      · rw [hl]; rfl
      · cases q
    | none =>
      obtain ⟨o1, o2⟩ := ha.out hc
      have hl : a1.live = true := by rw [ha.live, hc]; rfl
      have hb := ran_F en dep u ts a1 hl
      rw [o2] at hb
      generalize resF en dep u ts ra.free = rb at hb
      have ea : ra.seen = ra.ev := by rw [Rs.seen, hc]
      refine ⟨?_, ?_, fun q => ?_⟩
      · rw [hb.ev, ha.ev, ea]
        show _ = a.ev ++ Rs.seen ⟨_, orCut none _, _, _⟩
        unfold Rs.seen
        cases hcb : rb.cut with
        | none => simp [orCut, List.append_assoc]
        | some m =>
          show _ = a.ev ++ List.take (m + ra.ev.length) (ra.ev ++ rb.ev)
          rw [Nat.add_comm, List.take_length_add_append, List.append_assoc]
      · rw [hb.live]; cases rb.cut <;> rfl
      · have q' : rb.cut = none := by cases hcb : rb.cut with
          | none => rfl
          | some m => rw [hcb] at q; cases q
        obtain ⟨p1, p2⟩ := hb.out q'
        exact ⟨by rw [p1, o1]; simp only [sapp_assoc], p2⟩
-- part P5
/-- a frame's run, by its items -/
noncomputable def frameR (en : PySem.Str) (dep : Int) (u : PySem.Str) (its : List It) (free : Nat) : List Ev × Option (PySem.Str × Nat) :=
  if dep < 0 then ([], none) else
    let a := its.foldl (stepI en dep u) ⟨[], Str.ofString "", free, true⟩
    (.parse u :: a.ev, if a.live = true then some (a.out, a.free) else none)
theorem frame_kids (en : PySem.Str) (dep : Int) (u : PySem.Str) (kids : List Tree) (free : Nat) : frameR en dep u (itemsF kids ++ [.fin]) free = callR en dep u kids free := by
  unfold frameR callR
  by_cases hd : dep < 0
  · rw [if_pos hd, if_pos hd]
  rw [if_neg hd, if_neg hd]
  have R := ran_F en dep u kids ⟨[], Str.ofString "", free, true⟩ rfl
  dsimp only at R
  rw [List.foldl_append]
  generalize (itemsF kids).foldl (stepI en dep u) ⟨[], Str.ofString "", free, true⟩ = a at R
  generalize resF en dep u kids free = r at R
  obtain ⟨r1, r2, r3⟩ := R
  cases hc : r.cut with
  | none =>
    obtain ⟨o1, o2⟩ := r3 hc
    have hl : ¬ a.live = false := by rw [r2, hc]; simp
    have e : stepI en dep u a .fin = ⟨a.ev ++ [.piece u], a.out ++ en, a.free, a.live⟩ := by unfold stepI; rw [if_neg hl]
    rw [List.foldl_cons, List.foldl_nil, e]
    have es : r.seen = r.ev := by rw [Rs.seen, hc]
    dsimp only
    rw [r1, es, r2, hc, o1, o2, snil_app]
    rfl
  | some n =>
    have hl : a.live = false := by rw [r2, hc]; rfl
    rw [fold_dead en dep u _ _ hl]
    dsimp only
    rw [hl, r1]
    rfl
theorem frame_top (en : PySem.Str) (dep : Int) (ts : List Tree) (hd : ¬ dep < 0) : frameR en dep topT (itemsF ts) 0 = (.parse topT :: (resF en dep topT ts 0).seen, if (resF en dep topT ts 0).cut.isNone = true then some ((resF en dep topT ts 0).out, (resF en dep topT ts 0).free) else none) := by
  unfold frameR
  rw [if_neg hd]
  have R := ran_F en dep topT ts ⟨[], Str.ofString "", 0, true⟩ rfl
  dsimp only at R
  generalize (itemsF ts).foldl (stepI en dep topT) ⟨[], Str.ofString "", 0, true⟩ = a at R
  generalize resF en dep topT ts 0 = r at R
  obtain ⟨r1, r2, r3⟩ := R
  dsimp only
  rw [r1, r2]
  cases hc : r.cut with
  | none =>
    obtain ⟨o1, o2⟩ := r3 hc
    rw [o1, o2, snil_app]; rfl
  | some n => rfl
/-- what the law compares with is what the frame does -/
theorem due_seen {en : PySem.Str} {depth : Int} {ts : List Tree} {S : Sl} (B : Built en depth ts S) :
    (match S.fault with | none => S.due | some n => S.due.take n) = (frameR en depth topT (itemsF ts) 0).1 ∧
    (S.fault = none → (frameR en depth topT (itemsF ts) 0).2 = some ((resF en depth topT ts 0).out, S.free)) ∧ ((S.fault ≠ none) → (frameR en depth topT (itemsF ts) 0).2 = none) := by
  by_cases hd : depth < 0
  · have e : frameR en depth topT (itemsF ts) 0 = ([], none) := by unfold frameR; rw [if_pos hd]
    have ef := B.fault
    rw [if_neg (by omega)] at ef
    rw [e, ef]
    refine And.intro rfl (And.intro (fun h => ?_) fun _ => rfl)
    cases h
  · rw [frame_top en depth ts hd]
    have ef := B.fault
    rw [if_pos (by omega)] at ef
    rw [ef, B.due, B.free]
    cases hc : (resF en depth topT ts 0).cut with
    | none => exact ⟨by rw [Rs.seen, hc]; rfl, fun _ => rfl, fun h => absurd rfl h⟩
    | some n =>
      refine And.intro (by rw [Rs.seen, hc]; rfl) (And.intro (fun h => ?_) fun _ => rfl)
      cases h
-- part P6
mutual
noncomputable def wT : Tree → Nat
  | .node _ kids => 210 + wF kids
noncomputable def wF : List Tree → Nat
  | [] => 10
  | t :: ts => wT t + wF ts
end
noncomputable def OkN (d : Nd) : Prop := d.j < 100 ∧ (markT d.mark).length ≤ 10 ∧ (litT d.lit).length ≤ 10
mutual
noncomputable def OkT : Tree → Prop
  | .node d kids => OkN d ∧ OkF kids
noncomputable def OkF : List Tree → Prop
  | [] => True
  | t :: ts => OkT t ∧ OkF ts
end
mutual
noncomputable def hgT : Tree → Nat
  | .node _ kids => hgF kids + 1
noncomputable def hgF : List Tree → Nat
  | [] => 0
  | t :: ts => max (hgT t) (hgF ts)
end
noncomputable def wI : It → Nat
  | .mid => 5
  | .fin => 5
  | .fld _ kids => 200 + wF kids
noncomputable def wIs (l : List It) : Nat := (l.map wI).sum
theorem wIs_nil : wIs [] = 0 := rfl
theorem wIs_cons (it : It) (l : List It) : wIs (it :: l) = wI it + wIs l := by simp [wIs]
theorem wIs_app (l r : List It) : wIs (l ++ r) = wIs l + wIs r := by simp [wIs]
theorem items_w : ∀ ts : List Tree, wIs (itemsF ts) + 10 ≤ wF ts
  | [] => by rw [itemsF, wF, wIs_nil]; exact Nat.le_refl _
  | .node d kids :: ts => by
    have ih := items_w ts
    rw [itemsF, wF, wT, wIs_app, itemsT, wIs_app, wIs_cons, wIs_nil]
    have e : wIs (if d.mid = true then [It.mid] else []) ≤ 5 := by
      cases d.mid
      · exact Nat.zero_le _
      · simp [wIs, wI]
    rw [wI]
    omega
theorem numT_le (n : Nat) : (numT n).length ≤ n + 2 := by
  have h := PyProof.Rows.len_str_of_int (n : Int)
  have e : toString (n : Int) = toString n := rfl
  rw [e] at h
  show (Str.ofString (toString n)).length ≤ _
  omega
theorem asked_le {d : Nd} {free : Nat} (hd : OkN d) (hf : free < 100) : (d.asked free).length ≤ 110 := by
  unfold Nd.asked
  cases d.auto
  · simp only [Bool.false_eq_true, if_false]
    rw [PySem.Str.length_append]
    have e : (Str.ofString "n").length = 1 := by decide +kernel
    have := numT_le d.j
    have := hd.1
    omega
  · simp only [if_true]
    have := numT_le free
    omega
theorem value_le {d : Nd} {free : Nat} (hd : OkN d) (hf : free < 100) : (d.value free).length ≤ 130 := by
  unfold Nd.value
  have e1 : (Str.ofString "v").length = 1 := by decide +kernel
  have e2 : (Str.ofString "!").length = 1 := by decide +kernel
  rw [PySem.Str.length_append, PySem.Str.length_append, PySem.Str.length_append, e1, e2]
  have := asked_le hd hf
  have := hd.2.1
  omega
theorem shown_le (v t : PySem.Str) : (shown v t).length = v.length + t.length + 3 := by
  have e1 : (Str.ofString "<").length = 1 := by decide +kernel
  have e2 : (Str.ofString ":").length = 1 := by decide +kernel
  have e3 : (Str.ofString ">").length = 1 := by decide +kernel
  unfold shown
  rw [PySem.Str.length_append, PySem.Str.length_append, PySem.Str.length_append, PySem.Str.length_append, e1, e2, e3]
  omega
structure Bd (r : Rs) (free W : Nat) : Prop where
  ev : r.ev.length + 10 ≤ W
  out : r.out.length + 10 ≤ W
  free : r.free * 200 + 10 ≤ free * 200 + W
mutual
theorem bd_T (en : PySem.Str) (hen : en.length ≤ 1) : ∀ (t : Tree) (dep : Int) (u : PySem.Str) (free : Nat), OkT t → free * 200 + wT t ≤ 20000 → (resT en dep u t free).ev.length ≤ wT t ∧ (resT en dep u t free).out.length ≤ wT t ∧ (resT en dep u t free).free * 200 ≤ free * 200 + wT t
  | .node d kids => by
    intro dep u free ho hb
    rw [OkT] at ho
    rw [wT] at hb
    have hn : d.next free ≤ free + 1 := by unfold Nd.next; split <;> omega
    have k := bd_F en hen kids (dep - 1) (d.shape kids.isEmpty) (d.next free) ho.2 (by omega)
    rw [resT, wT]
    dsimp only
    generalize resF en (dep - 1) (d.shape kids.isEmpty) kids (d.next free) = r at k
    obtain ⟨k1, k2, k3⟩ := k
    have hp : (d.pre u free).length ≤ 4 := by
      unfold Nd.pre Nd.midEv
      cases d.mid <;> simp
    have hm : d.midT.length ≤ 3 := by
      have e1 : (Str.ofString "mid").length = 3 := by decide +kernel
      have e2 : (Str.ofString "").length = 0 := by decide +kernel
      unfold Nd.midT
      cases d.mid
      · simp only [Bool.false_eq_true, if_false]; omega
      · simp only [if_true]; omega
    have hv := value_le (free := free) ho.1 (by omega)
    refine ⟨?_, ?_, by omega⟩
    · simp only [List.length_append, List.length_cons, List.length_nil]
      omega
    · rw [PySem.Str.length_append, PySem.Str.length_append, shown_le, PySem.Str.length_append]
      have := ho.1.2.2
      omega
theorem bd_F (en : PySem.Str) (hen : en.length ≤ 1) : ∀ (ts : List Tree) (dep : Int) (u : PySem.Str) (free : Nat), OkF ts → free * 200 + wF ts ≤ 20000 → Bd (resF en dep u ts free) free (wF ts)
  | [] => by
    intro dep u free _ _
    have e2 : (Str.ofString "").length = 0 := by decide +kernel
    rw [resF, wF]
    constructor
    · dsimp only; simp
    · dsimp only; omega
    · dsimp only; exact Nat.le_refl _
  | t :: ts => by
    intro dep u free ho hb
    rw [OkF] at ho
    rw [wF] at hb
    obtain ⟨a1, a2, a3⟩ := bd_T en hen t dep u free ho.1 (by omega)
    rw [resF, wF]
    generalize resT en dep u t free = a at a1 a2 a3
    obtain ⟨b1, b2, b3⟩ := bd_F en hen ts dep u a.free ho.2 (by omega)
    generalize resF en dep u ts a.free = b at b1 b2 b3
    constructor
    · show (a.ev ++ b.ev).length + 10 ≤ _
      rw [List.length_append]; omega
    · show (a.out ++ b.out).length + 10 ≤ _
      rw [PySem.Str.length_append]; omega
    · show b.free * 200 + 10 ≤ _
      omega
end
theorem seen_le (r : Rs) : r.seen.length ≤ r.ev.length := by
  unfold Rs.seen
  split
  · exact Nat.le_refl _
  · rw [List.length_take]; exact Nat.min_le_right _ _
/-- what a call gives is no more than its weight -/
theorem call_bd {en : PySem.Str} (hen : en.length ≤ 1) {ts : List Tree} {dep : Int} {u : PySem.Str} {free : Nat} (ho : OkF ts) (hb : free * 200 + wF ts ≤ 20000) :
    (callR en dep u ts free).1.length ≤ wF ts ∧ ∀ x f, (callR en dep u ts free).2 = some (x, f) → x.length ≤ wF ts ∧ f * 200 ≤ free * 200 + wF ts := by
  have b := bd_F en hen ts dep u free ho hb
  unfold callR
  by_cases hd : dep < 0
  · rw [if_pos hd]
    exact ⟨Nat.zero_le _, fun x f e => by cases e⟩
  · rw [if_neg hd]
    generalize resF en dep u ts free = r at b
    obtain ⟨b1, b2, b3⟩ := b
    cases hc : r.cut with
    | none =>
      refine ⟨?_, fun x f e => ?_⟩
      · simp only [List.length_append, List.length_cons, List.length_nil]; omega
      · cases e
        rw [PySem.Str.length_append]
        exact ⟨by omega, by omega⟩
    | some n =>
      refine ⟨?_, fun x f e => by cases e⟩
      have := seen_le r
      simp only [List.length_cons]; omega
/-- the set of keys, after some events -/
structure Ks where
  S : PySem.Str → Bool
  n : Nat
noncomputable def addK (a : Ks) (x : PySem.Str) : Ks := ⟨fun y => a.S y || decide (y = x), if a.S x then a.n else a.n + 1⟩
noncomputable def keysK : Ks → List Ev → Ks
  | a, [] => a
  | a, .get n :: r => keysK (addK a (Str.ofString "k" ++ n)) r
  | a, _ :: r => keysK a r
theorem keysK_app : ∀ (l r : List Ev) (a : Ks), keysK a (l ++ r) = keysK (keysK a l) r
  | [], _, _ => rfl
  | .get n :: l, r, a => by rw [List.cons_append, keysK, keysK]; exact keysK_app l r _
  | .parse t :: l, r, a => by rw [List.cons_append, keysK, keysK]; exact keysK_app l r _; all_goals nofun
  | .piece t :: l, r, a => by rw [List.cons_append, keysK, keysK]; exact keysK_app l r _; all_goals nofun
  | .convert t m :: l, r, a => by rw [List.cons_append, keysK, keysK]; exact keysK_app l r _; all_goals nofun
  | .format t m :: l, r, a => by rw [List.cons_append, keysK, keysK]; exact keysK_app l r _; all_goals nofun
theorem step_bd {en : PySem.Str} (hen : en.length ≤ 1) {dep : Int} {u : PySem.Str} {a : Ac} {it : It} (ho : ∀ d kids, it = .fld d kids → OkT (.node d kids)) (hb : a.free * 200 + wI it ≤ 20000) (hl : a.live = true) :
    (stepI en dep u a it).ev.length ≤ a.ev.length + wI it ∧ ((stepI en dep u a it).live = true → (stepI en dep u a it).out.length ≤ a.out.length + wI it ∧ (stepI en dep u a it).free * 200 ≤ a.free * 200 + wI it) := by
  obtain ⟨ev, out, free, live⟩ := a
  cases hl
  have e1 : (Str.ofString "mid").length = 3 := by decide +kernel
  cases it with
  | mid =>
    have e : stepI en dep u ⟨ev, out, free, true⟩ .mid = ⟨ev ++ [.piece u], out ++ Str.ofString "mid", free, true⟩ := rfl
    rw [e, wI]
    refine ⟨by simp, fun _ => ⟨?_, Nat.le_add_right _ _⟩⟩
    dsimp only
    rw [PySem.Str.length_append, e1]; omega
  | fin =>
    have e : stepI en dep u ⟨ev, out, free, true⟩ .fin = ⟨ev ++ [.piece u], out ++ en, free, true⟩ := rfl
    rw [e, wI]
    refine ⟨by simp, fun _ => ⟨?_, Nat.le_add_right _ _⟩⟩
    dsimp only
    rw [PySem.Str.length_append]; omega
  | fld d kids =>
    have h1 := ho d kids rfl
    rw [OkT] at h1
    rw [wI] at hb ⊢
    dsimp only at hb
    have hn : d.next free ≤ free + 1 := by unfold Nd.next; split <;> omega
    obtain ⟨k1, k2⟩ := call_bd hen (ts := kids) (dep := dep - 1) (u := d.shape kids.isEmpty) (free := d.next free) h1.2 (by omega)
    have hv := value_le (free := free) h1.1 (by omega)
    have hd := h1.1.2.2
    unfold stepI
    dsimp only
    rw [if_neg (by decide)]
    generalize callR en (dep - 1) (d.shape kids.isEmpty) kids (d.next free) = c at k1 k2
    obtain ⟨cev, r⟩ := c
    dsimp only at k1 k2
    cases r with
    | none =>
      dsimp only
      refine ⟨?_, fun q => by cases q⟩
      simp only [List.length_append, fldEv, List.length_cons, List.length_nil]; omega
    | some p =>
      obtain ⟨x, f⟩ := p
      obtain ⟨k3, k4⟩ := k2 x f rfl
      dsimp only
      refine ⟨?_, fun _ => ⟨?_, ?_⟩⟩
      · simp only [List.length_append, fldEv, List.length_cons, List.length_nil]; omega
      · rw [PySem.Str.length_append, PySem.Str.length_append, shown_le]; omega
      · omega
theorem wIs_get {its : List It} {i : Nat} {it : It} (h : its[i]? = some it) : wIs (its.drop i) = wI it + wIs (its.drop (i + 1)) := by
  have hlt := (List.getElem?_eq_some_iff.mp h).1
  have he := (List.getElem?_eq_some_iff.mp h).2
  rw [List.drop_eq_getElem_cons hlt, wIs_cons, he]
theorem wI_pos (it : It) : 5 ≤ wI it := by cases it <;> simp only [wI] <;> omega
theorem wIs_len : ∀ l : List It, 5 * l.length ≤ wIs l
  | [] => Nat.zero_le _
  | it :: l => by
    have := wIs_len l
    have := wI_pos it
    rw [wIs_cons, List.length_cons]; omega
theorem items_mem {en : PySem.Str} {P : List (PySem.Str × List Pc)} {d : Nd} {kids : List Tree} : ∀ {ts : List Tree}, It.fld d kids ∈ itemsF ts → (EncF en P ts → EncT en P (.node d kids)) ∧ (OkF ts → OkT (.node d kids)) ∧ hgF kids < hgF ts
  | [], h => by rw [itemsF] at h; cases h
  | .node d' kids' :: ts, h => by
    rw [itemsF] at h
    rw [EncF, OkF, hgF]
    rcases List.mem_append.mp h with h | h
    · have e : It.fld d kids = It.fld d' kids' := by
        rw [itemsT] at h
        rcases List.mem_append.mp h with h | h
        · split at h
          · cases List.mem_singleton.mp h
          · cases h
        · exact List.mem_singleton.mp h
      injection e with e1 e2
      subst e1 e2
      refine ⟨fun q => q.1, fun q => q.1, ?_⟩
      rw [hgT]
      exact Nat.lt_of_lt_of_le (Nat.lt_succ_self _) (Nat.le_max_left _ _)
    · obtain ⟨a, b, c⟩ := items_mem (en := en) (P := P) h
      exact ⟨fun q => a q.2, fun q => b q.2, Nat.lt_of_lt_of_le c (Nat.le_max_right _ _)⟩
theorem stepI_some {en : PySem.Str} {dep : Int} {u : PySem.Str} {a : Ac} {d : Nd} {kids : List Tree} {txt : PySem.Str} {f : Nat} (hl : a.live = true) (h : (callR en (dep - 1) (d.shape kids.isEmpty) kids (d.next a.free)).2 = some (txt, f)) :
    stepI en dep u a (.fld d kids) = ⟨a.ev ++ fldEv u d a.free ++ (callR en (dep - 1) (d.shape kids.isEmpty) kids (d.next a.free)).1 ++ [.format (d.value a.free) txt], a.out ++ litT d.lit ++ shown (d.value a.free) txt, f, true⟩ := by
  obtain ⟨ev, out, free, live⟩ := a
  cases hl
  unfold stepI
  dsimp only at h ⊢
  rw [if_neg (by decide)]
  generalize callR en (dep - 1) (d.shape kids.isEmpty) kids (d.next free) = c at h
  obtain ⟨c1, c2⟩ := c
  dsimp only at h
  subst h
  rfl
theorem stepI_none {en : PySem.Str} {dep : Int} {u : PySem.Str} {a : Ac} {d : Nd} {kids : List Tree} (hl : a.live = true) (h : (callR en (dep - 1) (d.shape kids.isEmpty) kids (d.next a.free)).2 = none) :
    stepI en dep u a (.fld d kids) = ⟨a.ev ++ fldEv u d a.free ++ (callR en (dep - 1) (d.shape kids.isEmpty) kids (d.next a.free)).1, a.out, a.free, false⟩ := by
  obtain ⟨ev, out, free, live⟩ := a
  cases hl
  unfold stepI
  dsimp only at h ⊢
  rw [if_neg (by decide)]
  generalize callR en (dep - 1) (d.shape kids.isEmpty) kids (d.next free) = c at h
  obtain ⟨c1, c2⟩ := c
  dsimp only at h
  subst h
  rfl
-- part P7
mutual
theorem ok_flatT : ∀ (t : Tree) (L : Nat), (∀ a ∈ flatT L t, OkN a.1) → OkT t
  | .node d kids, L, h => by
    rw [flatT] at h
    rw [OkT]
    exact ⟨h (d, L) (.head _), ok_flatF kids (L + 1) fun a ha => h a (.tail _ ha)⟩
theorem ok_flatF : ∀ (ts : List Tree) (L : Nat), (∀ a ∈ flatF L ts, OkN a.1) → OkF ts
  | [], _, _ => by rw [OkF]; trivial
  | t :: ts, L, h => by
    rw [flatF] at h
    rw [OkF]
    exact ⟨ok_flatT t L fun a ha => h a (List.mem_append_left _ ha), ok_flatF ts L fun a ha => h a (List.mem_append_right _ ha)⟩
end
mutual
theorem w_flatT : ∀ (t : Tree) (L : Nat), wT t ≤ 220 * (flatT L t).length
  | .node d kids, L => by
    have := w_flatF kids (L + 1)
    rw [flatT, wT, List.length_cons]; omega
theorem w_flatF : ∀ (ts : List Tree) (L : Nat), wF ts ≤ 220 * (flatF L ts).length + 10
  | [], _ => by rw [wF, flatF]; exact Nat.le_refl _
  | t :: ts, L => by
    have h1 := w_flatT t L
    have h2 := w_flatF ts L
    rw [flatF, wF, List.length_append]; omega
end
mutual
theorem hg_flatT : ∀ (t : Tree) (L : Nat), hgT t ≤ (flatT L t).length
  | .node d kids, L => by
    have := hg_flatF kids (L + 1)
    rw [flatT, hgT, List.length_cons]; omega
theorem hg_flatF : ∀ (ts : List Tree) (L : Nat), hgF ts ≤ (flatF L ts).length
  | [], _ => by rw [hgF]; exact Nat.zero_le _
  | t :: ts, L => by
    have h1 := hg_flatT t L
    have h2 := hg_flatF ts L
    rw [flatF, hgF, List.length_append]; omega
end
/-- the law's own reading of a number -/
noncomputable def markOf (k : Int) : Option PySem.Str := if k = 0 then none else if k = 1 then some (Str.ofString "s") else if k = 2 then some (Str.ofString "r") else some (Str.ofString "?")
noncomputable def litOf (k : Int) : Option PySem.Str := if k = 0 then some (Str.ofString "") else if k = 1 then some (Str.ofString "one") else if k = 2 then none else some (Str.ofString "{}")
noncomputable def ndOf (j : Nat) (x : Int) : Nd where
  j := j
  auto := decide ((x.fdiv 3).fmod 2 = 0)
  mark := markOf (((x.fdiv 3).fdiv 2).fmod 4)
  lit := litOf (((x.fdiv 3).fdiv 8).fmod 4)
  wish := decide (((x.fdiv 3).fdiv 32).fmod 2 = 1)
  mid := decide (((x.fdiv 3).fdiv 64).fmod 2 = 1)
noncomputable def ndsFrom : Nat → List Int → List Int → List (Nd × Nat)
  | j, x :: r, l :: ls => (ndOf j x, l.toNat) :: ndsFrom (j + 1) r ls
  | _, _, _ => []
theorem mark_len (k : Int) : (markT (markOf k)).length ≤ 10 := by
  unfold markOf
  split
  · decide +kernel
  · split
    · decide +kernel
    · split <;> decide +kernel
theorem lit_len (k : Int) : (litT (litOf k)).length ≤ 10 := by
  unfold litOf
  split
  · decide +kernel
  · split
    · decide +kernel
    · split <;> decide +kernel
theorem nds_len : ∀ (j : Nat) (r ls : List Int), r.length = ls.length → (ndsFrom j r ls).length = r.length
  | _, [], [], _ => rfl
  | j, _ :: r, _ :: ls, h => by rw [ndsFrom, List.length_cons, List.length_cons, nds_len (j + 1) r ls (by simpa using h)]
  | _, [], _ :: _, h => by simp at h
  | _, _ :: _, [], h => by simp at h
theorem nds_get : ∀ (j : Nat) (r ls : List Int) (i : Nat) (x l : Int), r[i]? = some x → ls[i]? = some l → (ndsFrom j r ls)[i]? = some (ndOf (j + i) x, l.toNat)
  | _, _ :: _, _ :: _, 0, _, _, h, h' => by simp at h h'; subst h h'; rfl
  | j, _ :: r, _ :: ls, i + 1, x, l, h, h' => by
    have := nds_get (j + 1) r ls i x l (by simpa using h) (by simpa using h')
    rw [ndsFrom, List.getElem?_cons_succ, this]
    have e : j + 1 + i = j + (i + 1) := by omega
    rw [e]
  | _, [], _, _, _, _, h, _ => by simp at h
  | _, _ :: _, [], _, _, _, _, h => by simp at h
theorem nds_j : ∀ (j : Nat) (r ls : List Int), ∀ a ∈ ndsFrom j r ls, j ≤ a.1.j ∧ a.1.j < j + r.length
  | j, x :: r, l :: ls, a, h => by
    rw [ndsFrom] at h
    rcases List.mem_cons.mp h with rfl | h
    · exact ⟨Nat.le_refl _, by show j < _; rw [List.length_cons]; omega⟩
    · have := nds_j (j + 1) r ls a h
      rw [List.length_cons]
      omega
  | _, [], _, _, h => by rw [ndsFrom] at h; cases h; all_goals (intros; simp_all)
  | _, _ :: _, [], _, h => by rw [ndsFrom] at h; cases h; all_goals (intros; simp_all)
theorem nds_nodup : ∀ (j : Nat) (r ls : List Int), ((ndsFrom j r ls).map fun a => a.1.j).Nodup
  | j, x :: r, l :: ls => by
    rw [ndsFrom, List.map_cons, List.nodup_cons]
    refine ⟨fun h => ?_, nds_nodup (j + 1) r ls⟩
    obtain ⟨a, ha, e⟩ := List.mem_map.mp h
    have := nds_j (j + 1) r ls a ha
    have e : a.1.j = j := e
    omega
  | _, [], _ => by rw [ndsFrom]; exact List.nodup_nil; all_goals (intros; simp_all)
  | _, _ :: _, [] => by rw [ndsFrom]; exact List.nodup_nil; all_goals (intros; simp_all)
theorem nds_ok : ∀ (j : Nat) (r ls : List Int), j + r.length ≤ 100 → ∀ a ∈ ndsFrom j r ls, OkN a.1
  | j, x :: r, l :: ls, hj, a, h => by
    rw [ndsFrom] at h
    rw [List.length_cons] at hj
    rcases List.mem_cons.mp h with rfl | h
    · exact ⟨by show j < 100; omega, mark_len _, lit_len _⟩
    · exact nds_ok (j + 1) r ls (by omega) a h
  | _, [], _, _, _, h => by rw [ndsFrom] at h; cases h; all_goals (intros; simp_all)
  | _, _ :: _, [], _, _, h => by rw [ndsFrom] at h; cases h; all_goals (intros; simp_all)
/-- levels: none below 1, none more than one above the one ahead -/
inductive Lvs : List Int → Prop
  | nil : Lvs []
  | one (a) : 1 ≤ a → Lvs [a]
  | cons (a b r) : 1 ≤ a → b ≤ a + 1 → Lvs (b :: r) → Lvs (a :: b :: r)
theorem nds_steps : ∀ (j : Nat) (r ls : List Int), Lvs ls → Steps (ndsFrom j r ls) ∧ ∀ a ∈ ndsFrom j r ls, 1 ≤ a.2
  | j, x :: r, l :: ls, h => by
    have hl : 1 ≤ l := by cases h <;> assumption
    have ht : Lvs ls := by
      cases h with
      | one _ _ => exact .nil
      | cons _ _ _ _ _ h => exact h
    have ih := nds_steps (j + 1) r ls ht
    rw [ndsFrom]
    refine ⟨?_, fun a ha => ?_⟩
    · cases hr : ndsFrom (j + 1) r ls with
      | nil => exact .one _
      | cons b q =>
        rw [hr] at ih
        refine .cons _ _ _ ?_ ih.1
        cases r with
        | nil => rw [ndsFrom] at hr; cases hr; all_goals (intros; simp_all)
        | cons y r' =>
          cases ls with
          | nil => rw [ndsFrom] at hr; cases hr; all_goals (intros; simp_all)
          | cons m ls' =>
            rw [ndsFrom] at hr
            cases hr
            cases h with
            | cons _ _ _ _ h2 _ => show m.toNat ≤ l.toNat + 1; omega
    · rcases List.mem_cons.mp ha with rfl | ha
      · show 1 ≤ l.toNat; omega
      · exact ih.2 a ha
  | _, [], _, _ => by rw [ndsFrom]; exact ⟨.nil, fun a h => nomatch h⟩; all_goals (intros; simp_all)
  | _, _ :: _, [], _ => by rw [ndsFrom]; exact ⟨.nil, fun a h => nomatch h⟩; all_goals (intros; simp_all)
-- part P8
/-- how many fields are looked up -/
noncomputable def gN : List Ev → Nat
  | [] => 0
  | .get _ :: r => gN r + 1
  | .parse _ :: r => gN r
  | .piece _ :: r => gN r
  | .convert _ _ :: r => gN r
  | .format _ _ :: r => gN r
theorem gN_app : ∀ (l r : List Ev), gN (l ++ r) = gN l + gN r
  | [], _ => by simp [gN]
  | .get _ :: l, r => by rw [List.cons_append, gN, gN, gN_app l r]; omega
  | .parse _ :: l, r => by rw [List.cons_append, gN, gN, gN_app l r]
  | .piece _ :: l, r => by rw [List.cons_append, gN, gN, gN_app l r]
  | .convert _ _ :: l, r => by rw [List.cons_append, gN, gN, gN_app l r]
  | .format _ _ :: l, r => by rw [List.cons_append, gN, gN, gN_app l r]
theorem gN_take (l : List Ev) (n : Nat) : gN (l.take n) ≤ gN l := by
  have := gN_app (l.take n) (l.drop n)
  rw [List.take_append_drop] at this
  omega
theorem keysK_g : ∀ (l : List Ev) (a : Ks), (keysK a l).n ≤ a.n + gN l
  | [], _ => Nat.le_refl _
  | .get n :: l, a => by
    rw [keysK, gN]
    have := keysK_g l (addK a (Str.ofString "k" ++ n))
    have h : (addK a (Str.ofString "k" ++ n)).n ≤ a.n + 1 := by unfold addK; dsimp only; split <;> omega
    omega
  | .parse t :: l, a => by rw [keysK, gN]; exact keysK_g l a; all_goals nofun
  | .piece t :: l, a => by rw [keysK, gN]; exact keysK_g l a; all_goals nofun
  | .convert t m :: l, a => by rw [keysK, gN]; exact keysK_g l a; all_goals nofun
  | .format t m :: l, a => by rw [keysK, gN]; exact keysK_g l a; all_goals nofun
theorem gN_pre (d : Nd) (u : PySem.Str) (free : Nat) : gN (d.pre u free) = 1 := by
  unfold Nd.pre Nd.midEv
  rw [gN_app]
  cases d.mid <;> rfl
mutual
theorem g_T (en : PySem.Str) : ∀ (t : Tree) (dep : Int) (u : PySem.Str) (free : Nat), gN (resT en dep u t free).ev * 200 ≤ wT t
  | .node d kids, dep, u, free => by
    have k := g_F en kids (dep - 1) (d.shape kids.isEmpty) (d.next free)
    rw [resT, wT]
    dsimp only
    rw [gN_app, gN_app, gN_app, gN_pre]
    have e1 : gN [Ev.parse (d.shape kids.isEmpty)] = 0 := rfl
    have e2 : ∀ x y z, gN [Ev.piece x, Ev.format y z] = 0 := fun _ _ _ => rfl
    rw [e1, e2]
    omega
theorem g_F (en : PySem.Str) : ∀ (ts : List Tree) (dep : Int) (u : PySem.Str) (free : Nat), gN (resF en dep u ts free).ev * 200 ≤ wF ts
  | [], _, _, _ => by rw [resF, wF]; exact Nat.zero_le _
  | t :: ts, dep, u, free => by
    have a := g_T en t dep u free
    have b := g_F en ts dep u (resT en dep u t free).free
    rw [resF, wF]
    dsimp only
    rw [gN_app]
    omega
end
theorem call_g (en : PySem.Str) (ts : List Tree) (dep : Int) (u : PySem.Str) (free : Nat) : gN (callR en dep u ts free).1 * 200 ≤ wF ts := by
  have b := g_F en ts dep u free
  unfold callR
  by_cases hd : dep < 0
  · rw [if_pos hd]; exact Nat.zero_le _
  · rw [if_neg hd]
    generalize resF en dep u ts free = r at b
    cases hc : r.cut with
    | none =>
      show gN (Ev.parse u :: (r.ev ++ [Ev.piece u])) * 200 ≤ _
      rw [gN, gN_app]
      have e : gN [Ev.piece u] = 0 := rfl
      rw [e]; omega
    | some n =>
      show gN (Ev.parse u :: r.seen) * 200 ≤ _
      rw [gN, Rs.seen, hc]
      have := gN_take r.ev n
      dsimp only
      omega
theorem step_g {en : PySem.Str} {dep : Int} {u : PySem.Str} {a : Ac} {it : It} (hl : a.live = true) : gN (stepI en dep u a it).ev * 200 ≤ gN a.ev * 200 + wI it := by
  obtain ⟨ev, out, free, live⟩ := a
  cases hl
  cases it with
  | mid =>
    have e : stepI en dep u ⟨ev, out, free, true⟩ .mid = ⟨ev ++ [.piece u], out ++ Str.ofString "mid", free, true⟩ := rfl
    rw [e]
    dsimp only
    rw [gN_app]
    have e : gN [Ev.piece u] = 0 := rfl
    rw [e]; omega
  | fin =>
    have e : stepI en dep u ⟨ev, out, free, true⟩ .fin = ⟨ev ++ [.piece u], out ++ en, free, true⟩ := rfl
    rw [e]
    dsimp only
    rw [gN_app]
    have e : gN [Ev.piece u] = 0 := rfl
    rw [e]; omega
  | fld d kids =>
    have k := call_g en kids (dep - 1) (d.shape kids.isEmpty) (d.next free)
    have e0 : gN (fldEv u d free) = 1 := rfl
    rw [wI]
    unfold stepI
    dsimp only
    rw [if_neg (by decide)]
    generalize callR en (dep - 1) (d.shape kids.isEmpty) kids (d.next free) = c at k
    obtain ⟨cev, r⟩ := c
    dsimp only at k
    cases r with
    | none =>
      dsimp only
      rw [gN_app, gN_app, e0]; omega
    | some p =>
      obtain ⟨x, f⟩ := p
      dsimp only
      rw [gN_app, gN_app, gN_app, e0]
      have e : gN [Ev.format (d.value free) x] = 0 := rfl
      rw [e]; omega
theorem frame_g (en : PySem.Str) (dep : Int) (u : PySem.Str) (its : List It) (free : Nat) : gN (frameR en dep u its free).1 * 200 ≤ wIs its := by
  have k : ∀ (its : List It) (a : Ac), gN (its.foldl (stepI en dep u) a).ev * 200 ≤ gN a.ev * 200 + wIs its := by
    intro its
    induction its with
    | nil => intro a; exact Nat.le_add_right _ _
    | cons it r ih =>
      intro a
      rw [List.foldl_cons, wIs_cons]
      have h := ih (stepI en dep u a it)
      cases hl : a.live with
      | true => have := step_g (en := en) (dep := dep) (u := u) (it := it) hl; omega
      | false =>
        have e : stepI en dep u a it = a := by unfold stepI; rw [if_pos hl]
        rw [e] at h ⊢
        omega
  unfold frameR
  by_cases hd : dep < 0
  · rw [if_pos hd]; exact Nat.zero_le _
  · rw [if_neg hd]
    have := k its ⟨[], Str.ofString "", free, true⟩
    show gN (Ev.parse u :: _) * 200 ≤ _
    rw [gN]
    have e : gN ([] : List Ev) = 0 := rfl
    dsimp only at this
    rw [e] at this
    omega
-- part P9
/-- a text of signs that there are -/
noncomputable def SOk (x : PySem.Str) : Prop := x.cps.all (fun c => decide (c < 0x110000)) = true
theorem SOk.lay {x : PySem.Str} (h : SOk x) : PyData.canLay0 (.str x) = true := by
  unfold PyData.canLay0
  exact h
theorem SOk.app {x y : PySem.Str} (hx : SOk x) (hy : SOk y) : SOk (x ++ y) := by
  show Array.all (x.cps ++ y.cps) _ = true
  rw [Array.all_append, Bool.and_eq_true]
  exact ⟨hx, hy⟩
theorem sok (s : String) : SOk (Str.ofString s) := by
  unfold SOk
  rw [PySem.Str.ofString_eq_toList]
  rw [List.all_toArray, List.all_map, List.all_eq_true]
  intro c _
  have := c.valid
  simp only [Function.comp, decide_eq_true_eq]
  show c.val.toNat < _
  rcases c.valid with h | h
  · have : c.val.toNat < 0xd800 := h
    omega
  · exact h.2
noncomputable def OOk : Option PySem.Str → Prop
  | none => True
  | some x => SOk x
noncomputable def EvOk : Ev → Prop
  | .parse t => SOk t
  | .piece t => SOk t
  | .get n => SOk n
  | .convert v m => SOk v ∧ OOk m
  | .format v t => SOk v ∧ SOk t
noncomputable def NdOk (d : Nd) : Prop := OOk d.mark ∧ SOk (litT d.lit)
theorem NdOk.markT {d : Nd} (h : NdOk d) : SOk (markT d.mark) := by
  have := h.1
  cases hm : d.mark with
  | none => exact sok "None"
  | some m => rw [hm] at this; exact this
theorem numT_ok (n : Nat) : SOk (numT n) := sok _
theorem asked_ok (d : Nd) (free : Nat) : SOk (d.asked free) := by
  unfold Nd.asked
  split
  · exact numT_ok _
  · exact (sok _).app (numT_ok _)
theorem shape_ok (d : Nd) (leaf : Bool) : SOk (d.shape leaf) := by
  unfold Nd.shape
  split
  · exact sok _
  · exact (sok _).app (numT_ok _)
theorem value_ok {d : Nd} (h : NdOk d) (free : Nat) : SOk (d.value free) := (((sok _).app (asked_ok d free)).app (sok _)).app h.markT
theorem midT_ok (d : Nd) : SOk d.midT := by
  unfold Nd.midT; split <;> exact sok _
theorem shown_ok {v t : PySem.Str} (hv : SOk v) (ht : SOk t) : SOk (shown v t) := ((((sok _).app hv).app (sok _)).app ht).app (sok _)
mutual
noncomputable def NOkT : Tree → Prop
  | .node d kids => NdOk d ∧ NOkF kids
noncomputable def NOkF : List Tree → Prop
  | [] => True
  | t :: ts => NOkT t ∧ NOkF ts
end
mutual
theorem nok_flatT : ∀ (t : Tree) (L : Nat), (∀ a ∈ flatT L t, NdOk a.1) → NOkT t
  | .node d kids, L, h => by
    rw [flatT] at h
    rw [NOkT]
    exact ⟨h (d, L) (.head _), nok_flatF kids (L + 1) fun a ha => h a (.tail _ ha)⟩
theorem nok_flatF : ∀ (ts : List Tree) (L : Nat), (∀ a ∈ flatF L ts, NdOk a.1) → NOkF ts
  | [], _, _ => by rw [NOkF]; trivial
  | t :: ts, L, h => by
    rw [flatF] at h
    rw [NOkF]
    exact ⟨nok_flatT t L fun a ha => h a (List.mem_append_left _ ha), nok_flatF ts L fun a ha => h a (List.mem_append_right _ ha)⟩
end
theorem pre_ok {d : Nd} (h : NdOk d) {u : PySem.Str} (hu : SOk u) (free : Nat) : ∀ ev ∈ d.pre u free, EvOk ev := by
  unfold Nd.pre Nd.midEv
  intro ev hev
  rcases List.mem_append.mp hev with hev | hev
  · split at hev
    · rw [List.mem_singleton.mp hev]; exact hu
    · cases hev
  · simp only [List.mem_cons, List.not_mem_nil, or_false] at hev
    rcases hev with rfl | rfl | rfl
    · exact hu
    · exact asked_ok _ _
    · exact ⟨(sok _).app (asked_ok _ _), h.1⟩
mutual
theorem evok_T {en : PySem.Str} (hen : SOk en) : ∀ (t : Tree) (dep : Int) (u : PySem.Str) (free : Nat), NOkT t → SOk u → (∀ ev ∈ (resT en dep u t free).ev, EvOk ev) ∧ SOk (resT en dep u t free).out
  | .node d kids, dep, u, free, h, hu => by
    rw [NOkT] at h
    have k := evok_F hen kids (dep - 1) (d.shape kids.isEmpty) (d.next free) h.2 (shape_ok _ _)
    rw [resT]
    dsimp only
    generalize resF en (dep - 1) (d.shape kids.isEmpty) kids (d.next free) = r at k
    refine ⟨fun ev hev => ?_, ((midT_ok d).app h.1.2).app (shown_ok (value_ok h.1 _) (k.2.app hen))⟩
    simp only [List.mem_append, List.mem_cons, List.not_mem_nil, or_false] at hev
    rcases hev with ((hev | rfl) | hev) | rfl | rfl
    · exact pre_ok h.1 hu _ ev hev
    · exact shape_ok _ _
    · exact k.1 ev hev
    · exact shape_ok _ _
    · exact ⟨value_ok h.1 _, k.2.app hen⟩
theorem evok_F {en : PySem.Str} (hen : SOk en) : ∀ (ts : List Tree) (dep : Int) (u : PySem.Str) (free : Nat), NOkF ts → SOk u → (∀ ev ∈ (resF en dep u ts free).ev, EvOk ev) ∧ SOk (resF en dep u ts free).out
  | [], dep, u, free, _, _ => by rw [resF]; exact ⟨(fun ev h => nomatch h), sok _⟩
  | t :: ts, dep, u, free, h, hu => by
    rw [NOkF] at h
    have a := evok_T hen t dep u free h.1 hu
    have b := evok_F hen ts dep u (resT en dep u t free).free h.2 hu
    rw [resF]
    dsimp only
    refine ⟨fun ev hev => ?_, a.2.app b.2⟩
    rcases List.mem_append.mp hev with hev | hev
    · exact a.1 ev hev
    · exact b.1 ev hev
end
theorem frame_ok {en : PySem.Str} (hen : SOk en) (dep : Int) (ts : List Tree) (h : NOkF ts) : ∀ ev ∈ (frameR en dep topT (itemsF ts) 0).1, EvOk ev := by
  by_cases hd : dep < 0
  · unfold frameR; rw [if_pos hd]; exact fun ev h => nomatch h
  · rw [frame_top en dep ts hd]
    intro ev hev
    have k := (evok_F hen ts dep topT 0 h (sok _)).1
    rcases List.mem_cons.mp hev with rfl | hev
    · exact sok _
    · unfold Rs.seen at hev
      split at hev
      · exact k ev hev
      · exact k ev (List.mem_of_mem_take hev)
theorem ndOf_ok (j : Nat) (x : Int) : NdOk (ndOf j x) := by
  have m : ∀ k, OOk (markOf k) := fun k => by
    unfold markOf
    split
    · trivial
    · split
      · exact sok _
      · split <;> exact sok _
  have l : ∀ k, SOk (litT (litOf k)) := fun k => by
    unfold litOf
    split
    · exact sok _
    · split
      · exact sok _
      · split <;> exact sok _
  exact ⟨m _, l _⟩
theorem nds_nok : ∀ (j : Nat) (r ls : List Int), ∀ a ∈ ndsFrom j r ls, NdOk a.1
  | j, x :: r, l :: ls, a, h => by
    rw [ndsFrom] at h
    rcases List.mem_cons.mp h with rfl | h
    · exact ndOf_ok _ _
    · exact nds_nok (j + 1) r ls a h
  | _, [], _, _, h => by rw [ndsFrom] at h; cases h; all_goals (intros; simp_all)
  | _, _ :: _, [], _, h => by rw [ndsFrom] at h; cases h; all_goals (intros; simp_all)
-- part A1
noncomputable abbrev Led := Addr → Option Obj
noncomputable def Led.put (N : Led) (a : Addr) (o : Obj) : Led := fun b => if b = a then some o else N b
noncomputable def Led.nil : Led := fun _ => none
noncomputable def Led.Le (N N' : Led) : Prop := ∀ a o, N a = some o → N' a = some o
theorem Led.Le.refl (N : Led) : Led.Le N N := fun _ _ e => e
theorem Led.Le.trans {N N' N'' : Led} (h : Led.Le N N') (h' : Led.Le N' N'') : Led.Le N N'' := fun a o e => h' a o (h a o e)
theorem Led.Le.none {N N' : Led} (h : Led.Le N N') {a : Addr} (e : N' a = none) : N a = none := by
  cases q : N a with
  | none => rfl
  | some o => rw [h a o q] at e; cases e
theorem Led.put_none {N : Led} {a b : Addr} {o : Obj} (h : N b = none) (hne : b ≠ a) : (N.put a o) b = none := by simp [Led.put, hne, h]
theorem Led.put_same {N : Led} {a : Addr} {o : Obj} : (N.put a o) a = some o := by simp [Led.put]
theorem Led.put_ne {N : Led} {a b : Addr} {o : Obj} (h : b ≠ a) : (N.put a o) b = N b := by simp [Led.put, h]
theorem Led.le_put {N : Led} {a : Addr} {o : Obj} (h : N a = none) : Led.Le N (N.put a o) := fun b x e => by
  by_cases hb : b = a
  · subst hb; rw [h] at e; cases e
  · rw [Led.put_ne hb]; exact e

theorem Led.put_of {N : Led} {a b : Addr} {o o' : Obj} (h : N b = some o') (ha : N a = none) : (N.put a o) b = some o' := by
  have hne : b ≠ a := fun e => by rw [e, ha] at h; cases h
  rw [Led.put_ne hne]; exact h
/-- what stands behind: the state at the start; objects that nothing may change for a while (iterators) -/
structure Zx where
  sh : Shared
  prot : Led
noncomputable def Zx.of (s : Shared) : Zx := ⟨s, Led.nil⟩
noncomputable def Zx.add (z : Zx) (a : Addr) (o : Obj) : Zx := ⟨z.sh, z.prot.put a o⟩
/-- where the call stands: the frame's locals are m, the older heap h₀ is kept, the ledger N lies in the heap, all else is as in z -/
structure In (h₀ : Heap) (L : Addr) (m : PySem.Str → Option Value) (N : Led) (z : Zx) (s : Shared) : Prop where
  fr : Fr h₀ L s.heap m
  led : ∀ a o, N a = some o → s.heap.get? a = some o ∧ a ≠ L ∧ h₀.get? a = none
  prot : ∀ a o, z.prot a = some o → s.heap.get? a = some o ∧ a ≠ L ∧ h₀.get? a = none ∧ N a = none
  gens : s.gens = z.sh.gens
  drawn : s.drawn = z.sh.drawn
  os : s.os = z.sh.os

theorem keeps_toks (s : Shared) (tk : Nat) : Keeps s { s with toks := tk } := ⟨s.heap, tk, rfl, fun _ _ e => e⟩
section
variable {h₀ : Heap} {L : Addr} {m : PySem.Str → Option Value} {N : Led} {z : Zx} {s s' : Shared}
theorem In.keeps (I : In h₀ L m N z s) (k : Keeps s s') : In h₀ L m N z s' := by
  obtain ⟨h1, t1, rfl, k1⟩ := k
  exact ⟨⟨I.fr.ns.keeps k1, fun b o e => k1 b o (I.fr.keep b o e), I.fr.above⟩, fun a o e => ⟨k1 a o (I.led a o e).1, (I.led a o e).2⟩, fun a o e => ⟨k1 a o (I.prot a o e).1, (I.prot a o e).2⟩, I.gens, I.drawn, I.os⟩
theorem In.toks (I : In h₀ L m N z s) (tk : Nat) : In h₀ L m N z { s with toks := tk } := I.keeps (keeps_toks s tk)
theorem In.get (I : In h₀ L m N z s) {a : Addr} {o : Obj} (e : N a = some o) : s.heap.get? a = some o := (I.led a o e).1
theorem In.weaken {N' : Led} (I : In h₀ L m N' z s) (l : Led.Le N N') : In h₀ L m N z s := ⟨I.fr, fun a o e => I.led a o (l a o e), fun a o e => ⟨(I.prot a o e).1, (I.prot a o e).2.1, (I.prot a o e).2.2.1, l.none (I.prot a o e).2.2.2⟩, I.gens, I.drawn, I.os⟩
theorem In.fresh (I : In h₀ L m N z s) : N s.heap.objs.size = none := by
  cases e : N s.heap.objs.size with
  | none => rfl
  | some o => exact absurd (Heap.lt_size (I.get e)) (Nat.lt_irrefl _)
theorem In.alloc (I : In h₀ L m N z s) (o : Obj) (hf : o.isFreed = false := by rfl) : In h₀ L m (N.put s.heap.objs.size o) z { s with heap := s.heap.push o } := by
  have F := I.fr
  refine ⟨F.push o, fun a x e => ?_, fun a x e => ⟨Heap.get?_push_of_some _ (I.prot a x e).1, (I.prot a x e).2.1, (I.prot a x e).2.2.1, Led.put_none (I.prot a x e).2.2.2 (Nat.ne_of_lt (Heap.lt_size (I.prot a x e).1))⟩, I.gens, I.drawn, I.os⟩
  by_cases ha : a = s.heap.objs.size
  · subst ha
    rw [Led.put_same] at e; cases e
    have nw := News.push F (News.nil) o hf (s.heap.objs.size, o) (.head _)
    exact nw
  · rw [Led.put_ne ha] at e
    have := I.led a x e
    exact ⟨Heap.get?_push_of_some _ this.1, this.2⟩
/-- a change of the one object a by a road that says SameBut -/
theorem In.same (I : In h₀ L m N z s) {a : Addr} {o o' : Obj} {h' : Heap} {tk : Nat} (ha : N a = some o) (hs : Heap.SameBut a s.heap h') (e : h'.get? a = some o') : In h₀ L m (N.put a o') z { s with heap := h', toks := tk } := by
  have D := I.led a o ha
  have F := I.fr
  obtain ⟨oL, es, ep, hL, r⟩ := F.ns
  refine ⟨⟨⟨oL, es, ep, (hs.2 _ (Ne.symm D.2.1)).trans hL, r⟩, fun b x q => (hs.2 _ fun z => ?_).trans (F.keep b x q), F.above⟩, fun b x q => ?_, fun b x q => ?_, I.gens, I.drawn, I.os⟩
  · have := D.2.2; rw [← z, q] at this; cases this
  rotate_left
  · have hb : b ≠ a := fun y => by have := (I.prot b x q).2.2.2; rw [y, ha] at this; cases this
    exact ⟨(hs.2 _ hb).trans (I.prot b x q).1, (I.prot b x q).2.1, (I.prot b x q).2.2.1, Led.put_none (I.prot b x q).2.2.2 hb⟩
  · by_cases hb : b = a
    · subst hb
      rw [Led.put_same] at q; cases q
      exact ⟨e, D.2⟩
    · rw [Led.put_ne hb] at q
      have P := I.led b x q
      exact ⟨(hs.2 _ hb).trans P.1, P.2⟩
theorem In.set (I : In h₀ L m N z s) {m' : PySem.Str → Option Value} {h' : Heap} {tk : Nat} (hn : h'.Ns L m') (hs : Heap.SameBut L s.heap h') : In h₀ L m' N z { s with heap := h', toks := tk } :=
  ⟨I.fr.set hn hs, fun a o e => ⟨(hs.2 a (I.led a o e).2.1).trans (I.led a o e).1, (I.led a o e).2⟩, fun a o e => ⟨(hs.2 a (I.prot a o e).2.1).trans (I.prot a o e).1, (I.prot a o e).2⟩, I.gens, I.drawn, I.os⟩
end

/-- a change that spares all but one object of no ledger: a loop's iterator -/
theorem In.addProt {h₀ : Heap} {L : Addr} {m : PySem.Str → Option Value} {N : Led} {z : Zx} {s : Shared} (I : In h₀ L m N z s) {a : Addr} {o : Obj} (h : s.heap.get? a = some o) (h1 : a ≠ L) (h2 : h₀.get? a = none) (h3 : N a = none) : In h₀ L m N (z.add a o) s :=
  ⟨I.fr, I.led, fun b x e => by
    by_cases hb : b = a
    · subst hb
      have : some o = some x := (Led.put_same (N := z.prot)).symm.trans e
      cases this; exact ⟨h, h1, h2, h3⟩
    · exact I.prot b x ((Led.put_ne (N := z.prot) hb).symm.trans e), I.gens, I.drawn, I.os⟩
/-- the iterator's own step -/
theorem In.iter {h₀ : Heap} {L : Addr} {m : PySem.Str → Option Value} {N : Led} {z : Zx} {s : Shared} {a : Addr} (I : In h₀ L m N z s) (h1 : a ≠ L) (h2 : h₀.get? a = none) (h3 : N a = none) (h4 : z.prot a = none)
    {h' : Heap} {tk : Nat} (k : ∀ b o, b ≠ a → s.heap.get? b = some o → h'.get? b = some o) : In h₀ L m N z { s with heap := h', toks := tk } := by
  obtain ⟨oL, es, ep, hL, r⟩ := I.fr.ns
  refine ⟨⟨⟨oL, es, ep, k _ _ (Ne.symm h1) hL, r⟩, fun b o e => k b o (fun y => by rw [y, h2] at e; cases e) (I.fr.keep b o e), I.fr.above⟩,
    fun b o e => ⟨k b o (fun y => by rw [y, h3] at e; cases e) (I.led b o e).1, (I.led b o e).2⟩, fun b o e => ⟨k b o (fun y => by rw [y, h4] at e; cases e) (I.prot b o e).1, (I.prot b o e).2⟩, I.gens, I.drawn, I.os⟩
theorem In.keepsOf {h₀ : Heap} {L : Addr} {m : PySem.Str → Option Value} {N : Led} {z : Zx} {s : Shared} (I : In h₀ L m N z s) (e : z.sh.heap = h₀ := by rfl) : Keeps z.sh s := by
  refine ⟨s.heap, s.toks, ?_, e ▸ I.fr.keep⟩
  obtain ⟨g1, g2, g3⟩ := And.intro I.gens (And.intro I.drawn I.os)
  cases s; simp only at g1 g2 g3 ⊢; rw [g1, g2, g3]
/-- one name set -/
noncomputable def upd (m : PySem.Str → Option Value) (x : PySem.Str) (v : Value) : PySem.Str → Option Value := fun y => if y = x then some v else m y
theorem upd_same {m : PySem.Str → Option Value} {x : PySem.Str} {v : Value} : upd m x v x = some v := by simp [upd]
theorem upd_ne {m : PySem.Str → Option Value} {x y : PySem.Str} {v v' : Value} (hne : y ≠ x) (h : m y = some v) : upd m x v' y = some v := by simp [upd, hne, h]
-- part A2
/-- the text's own objects and names, at a heap -/
structure Glo (K : Frag) (mg mb : PySem.Str → Option Value) (h : Heap) : Prop where
  X : K.In h
  g : h.Ns mainGlobals mg
  b : h.Ns builtinsNs mb
  nolimit : h.NoLimit
  builtins : ∀ x : PySem.Str, x ≠ "__name__" → mb x = bootBuiltins x
theorem Glo.keeps {K : Frag} {mg mb : PySem.Str → Option Value} {h h' : Heap} (G : Glo K mg mb h) (k : ∀ b o, h.get? b = some o → h'.get? b = some o) : Glo K mg mb h' :=
  ⟨G.X.keeps k, G.g.keeps k, G.b.keeps k, G.nolimit.keeps k, G.builtins⟩
theorem Glo.of {K : Frag} {p : Program} {loose : List PySem.Str} {mean : ExcName → Option Value} {mg mb : PySem.Str → Option Value} {h : Heap} (X : K.In h) (T : Top p loose mean mg mb h) : Glo K mg mb h := ⟨X, T.g, T.b, T.nolimit, T.builtins⟩

/-- room above: d frames, u units -/
structure Rm (A : Around) (d u : Nat) : Prop where
  handled : A.handled = none
  depth : A.depth + d < recursionLimit
  units : A.units + u < cLine
theorem Rm.deeper {A : Around} {d u : Nat} {env : Env} (R : Rm A (d + 1) (u + 3)) : Rm (A.deeper env) d u :=
  ⟨R.handled, by have := R.depth; show A.depth + 1 + d < _; omega, by have := R.units; show A.units + 3 + u < _; omega⟩
theorem Rm.less {A : Around} {d u d' u' : Nat} (R : Rm A d u) (hd : d' ≤ d := by omega) (hu : u' ≤ u := by omega) : Rm A d' u' :=
  ⟨R.handled, by have := R.depth; omega, by have := R.units; omega⟩

noncomputable def thenDo (M : Model) (A : Around) (env : Env) (rest : List Stmt) (Q : Flow → Shared → Prop) (E : Value → Shared → Prop) (f : Flow) (s : Shared) : Prop :=
  match f with
  | .next => wpAny M A (execs rest env) Q E s
  | f => Q f s

section
variable {M : Model} {A : Around} {E : Value → Shared → Prop} {s : Shared} {env : Env} {rest : List Stmt} {Q : Flow → Shared → Prop}
theorem letG {G : Prop} (h : let K := G; K) : G := h
theorem letQ {α : Type} {M : Model} {A : Around} {t : Sem α} {Q : α → Shared → Prop} {E : Value → Shared → Prop} {s : Shared} (h : let K := Q; wpAny M A t K E s) : wpAny M A t Q E s := h
theorem letQE {α : Type} {M : Model} {A : Around} {t : Sem α} {Q : α → Shared → Prop} {E : Value → Shared → Prop} {s : Shared} (h : let K := Q; let F := E; wpAny M A t K F s) : wpAny M A t Q E s := h
theorem x_nil (h : Q .next s) : wpAny M A (execs [] env) Q E s := wpAny_execs_nil h
theorem x_cons {st : Stmt} (h : wpAny M A (exec st env) (thenDo M A env rest Q E) E s) : wpAny M A (execs (st :: rest) env) Q E s :=
  wpAny_execs_cons (wpAny_mono h (fun f s' x => by cases f <;> exact x) fun _ _ x => x)
theorem then_next (h : wpAny M A (execs rest env) Q E s) : thenDo M A env rest Q E .next s := h
theorem then_ret {v : Value} (h : Q (.ret v) s) : thenDo M A env rest Q E (.ret v) s := h
theorem x_ret {e : Expr} {pos : Pos} (h : wpAny M A (eval e env) (fun v => Q (.ret v)) E s) : wpAny M A (execs (.Return (some e) pos :: rest) env) Q E s :=
  x_cons (wpAny_Return_some (wpAny_mono h (fun _ _ x => x) fun _ _ x => x))
theorem x_assign {x : PySem.Str} {p' pos : Pos} {value : Expr} (h : wpAny M A (eval value env) (fun v s₁ => wpAny M A (storeName env x v) (fun _ s₂ => wpAny M A (execs rest env) Q E s₂) E s₁) E s)
    (hs : swapsWith value (some (.Name x p')) pos.line env = pure false := by with_unfolding_all rfl) : wpAny M A (execs (.Assign [.Name x p'] value pos :: rest) env) Q E s :=
  x_cons (wpAny_Assign_Name h hs)
theorem x_aug {x : PySem.Str} {p' pos : Pos} {op : Operator} {value : Expr}
    (h : wpAny M A (loadName env x) (fun old s₁ => wpAny M A (eval value env) (fun v s₂ => wpAny M A (inplaceOp op old v) (fun r s₃ => wpAny M A (storeName env x r) (fun _ s₄ => wpAny M A (execs rest env) Q E s₄) E s₃) E s₂) E s₁) E s) :
    wpAny M A (execs (.AugAssign (.Name x p') op value pos :: rest) env) Q E s := x_cons (wpAny_AugAssign_Name h)
theorem x_if {test : Expr} {body orelse : List Stmt} {pos : Pos}
    (h : wpAny M A (isTrue test env (eval test env)) (fun b s₂ => if b = true then wpAny M A (execs body env) (thenDo M A env rest Q E) E s₂ else wpAny M A (execs orelse env) (thenDo M A env rest Q E) E s₂) E s) :
    wpAny M A (execs (.If test body orelse pos :: rest) env) Q E s := x_cons (wpAny_If h)
theorem x_for {t it : Expr} {body orelse : List Stmt} {pos : Pos}
    (h : wpAny M A (exec (.For t it body orelse pos) env) (thenDo M A env rest Q E) E s) :
    wpAny M A (execs (.For t it body orelse pos :: rest) env) Q E s := x_cons h

theorem if_dec {p : Prop} [Decidable p] {a b : Prop} (h : p → a) (h' : ¬ p → b) : if (decide p) = true then a else b := by
  by_cases q : p <;> simp [q, h, h']
theorem if_ndec {p : Prop} [Decidable p] {a b : Prop} (h : ¬ p → a) (h' : p → b) : if (!decide p) = true then a else b := by
  by_cases q : p <;> simp [q, h, h']
theorem if_bool {c : Bool} {a b : Prop} (h : c = true → a) (h' : c = false → b) : if c = true then a else b := by
  cases c <;> simp_all
theorem if_beq {α : Type} [BEq α] [LawfulBEq α] {x y : α} {a b : Prop} (h : x = y → a) (h' : x ≠ y → b) : if (x == y) = true then a else b := by
  by_cases q : x = y <;> simp [q, h, h']
theorem if_t {a b : Prop} (h : a) : if true = true then a else b := by simpa using h
theorem if_f {a b : Prop} (h : b) : if false = true then a else b := by simpa using h
end

section
variable {prog : Program} {w : World} {A : Around} {E : Value → Shared → Prop} {h₀ : Heap} {m : PySem.Str → Option Value} {N : Led} {z : Zx} {s : Shared} {env : Env} {K : Frag} {mg mb : PySem.Str → Option Value}

theorem r_store {x : PySem.Str} {v : Value} {Q : Unit → Shared → Prop} (I : In h₀ env.locals m N z s) (h : ∀ s', In h₀ env.locals (upd m x v) N z s' → Q () s')
    (hk : env.scope.kind = .function := by with_unfolding_all rfl) (hl : env.kindOf x = some .local := by with_unfolding_all rfl) :
    wpAny (model prog w) A (storeName env x v) Q E s :=
  wpAny_storeName_local hl I.fr.ns (fun h' hn hs => h _ (I.set hn hs)) (by rw [hk]; rfl)
theorem r_load {x : PySem.Str} {v : Value} {Q : Value → Shared → Prop} (I : In h₀ env.locals m N z s) (hv : m x = some v) (h : Q v s)
    (hk : env.scope.kind = .function := by with_unfolding_all rfl) (hl : env.kindOf x = some .local := by with_unfolding_all rfl) : wpAny (model prog w) A (loadName env x) Q E s := wpAny_loadName_local hk hl I.fr.ns hv h
theorem r_name {x : PySem.Str} {pos : Pos} {v : Value} {Q : Value → Shared → Prop} (I : In h₀ env.locals m N z s) (hv : m x = some v) (h : Q v s)
    (hk : env.scope.kind = .function := by with_unfolding_all rfl) (hl : env.kindOf x = some .local := by with_unfolding_all rfl) (hd : (x == ("__debug__" : PySem.Str)) = false := by decide) :
    wpAny (model prog w) A (eval (.Name x pos) env) Q E s := wpAny_Name (wpAny_loadName_local hk hl I.fr.ns hv h) hd
theorem r_global {x : PySem.Str} {pos : Pos} {v : Value} {Q : Value → Shared → Prop} (G : Glo K mg mb h₀) (I : In h₀ env.locals m N z s) (e : nsIn K mainGlobals x = some (some v)) (h : Q v s)
    (hg : env.globals = mainGlobals := by with_unfolding_all rfl)
    (hk : env.scope.kind = .function := by with_unfolding_all rfl) (hl : env.kindOf x = some .globalImplicit := by with_unfolding_all rfl) (hd : (x == ("__debug__" : PySem.Str)) = false := by decide) :
    wpAny (model prog w) A (eval (.Name x pos) env) Q E s := Name_function_global hk hl (loadGlobal_global (by rw [hg]; exact G.g.keeps I.fr.keep) (mg_of G.X G.g e) h) hd
theorem r_builtin {x : PySem.Str} {pos : Pos} {v : Value} {Q : Value → Shared → Prop} (G : Glo K mg mb h₀) (I : In h₀ env.locals m N z s) (e : nsIn K mainGlobals x = some none) (hv : bootBuiltins x = some v) (h : Q v s)
    (hn : x ≠ "__name__" := by decide) (hg : env.globals = mainGlobals := by with_unfolding_all rfl) (hb : env.builtins = builtinsNs := by with_unfolding_all rfl)
    (hk : env.scope.kind = .function := by with_unfolding_all rfl) (hl : env.kindOf x = some .globalImplicit := by with_unfolding_all rfl) (hd : (x == ("__debug__" : PySem.Str)) = false := by decide) :
    wpAny (model prog w) A (eval (.Name x pos) env) Q E s :=
  Name_function_global hk hl (loadGlobal_builtin (by rw [hg]; exact G.g.keeps I.fr.keep) (mg_none_of G.X G.g e) (by rw [hb]; exact G.b.keeps I.fr.keep) ((G.builtins x hn).trans hv) h) hd

theorem r_str {x : PySem.Str} {k : Nat} {pos : Pos} {Q : Value → Shared → Prop} (I : In h₀ env.locals m N z s) (h : ∀ t s', In h₀ env.locals m N z s' → Q (.str x t) s') : wpAny (model prog w) A (eval (.Constant (.str x) k pos) env) Q E s :=
  Calls.Constant_str (h _ _ (I.toks _))
theorem r_int {x : Int} {k : Nat} {pos : Pos} {Q : Value → Shared → Prop} (I : In h₀ env.locals m N z s) (h : ∀ t s', In h₀ env.locals m N z s' → Q (.int x t) s') : wpAny (model prog w) A (eval (.Constant (.int x) k pos) env) Q E s :=
  wpAny_Constant_int (h _ _ (I.toks _))
theorem r_addS {L : Addr} {x y : PySem.Str} {t u : Tok} {Q : Value → Shared → Prop} (I : In h₀ L m N z s) (h : ∀ t s', In h₀ L m N z s' → Q (.str (x ++ y) t) s') (hsz : x.length + y.length ≤ sizeLine) :
    wpAny (model prog w) A (binaryOp .Add (.str x t) (.str y u)) Q E s := add_str (fun _ _ => h _ _ (I.toks _)) hsz
theorem r_div {L : Addr} {a b : Int} {t u : Tok} {Q : Value → Shared → Prop} (I : In h₀ L m N z s) (hb : b ≠ 0) (h : ∀ t s', In h₀ L m N z s' → Q (.int (Int.fdiv a b) t) s')
    (hp : Builtin.divisionGoesByPylong a b = false ∨ PylongRoom (model prog w) A s) :
    wpAny (model prog w) A (binaryOp .FloorDiv (.int a t) (.int b u)) Q E s := floordiv_int hb (h _ _ (I.toks _)) hp
theorem r_gt {a b : Int} {t u : Tok} {Q : Value → Shared → Prop} (h : Q (.bool (decide (b < a))) s) : wpAny (model prog w) A (compareOp .Gt (.int a t) (.int b u)) Q E s := gt_int h

/-- a call of a def of the text that changes nothing older: from its body's walk -/
theorem call_fn {f : Addr} {pos : List Value} {kw : List (PySem.Str × Value)} {name qual : PySem.Str} {params : Arguments} {body : List Stmt} {scope : Scope} {cl : List (PySem.Str × Addr)} {dV kV doc pm cdv ct oc : Value} {an od : Option Addr} {osl : Array (Option Value)}
    (binds : List (PySem.Str × Value)) (P : Value → Shared → Prop) (G : Glo K mg mb s.heap) (hroom : A.depth < recursionLimit)
    (ho : K.lookup f = some ⟨oc, od, .func (fnX name qual params body scope cl dV kV doc pm an cdv ct), osl⟩) (hcd : codeIn K cdv qual = true)
    (hbind : BindsTo s (fnX name qual params body scope cl dV kV doc pm an cdv ct) ⟨pos, kw⟩ binds)
    (hcell : ∀ x ∈ scope.names, x.2 ≠ .cell) (hloc : ∀ x ∈ binds, scope.names.lookup x.1 = some .local)
    (hco : scope.isCoroutine = false) (hgen : scope.isGenerator = false) (hk : scope.kind = .function)
    (h : ∀ s₁, In s.heap s.heap.objs.size (fun x => binds.reverse.lookup x) Led.nil (Zx.of s) s₁ →
      wpAny (model prog w) (A.deeper (envX qual scope s.heap.objs.size f cdv cl)) (execs body (envX qual scope s.heap.objs.size f cdv cl))
        (fun fl s' => P (match fl with | .ret v => v | _ => .none) s' ∧ ∃ L m N, In s.heap L m N (Zx.of s) s') (fun _ _ => False) s₁) :
    wpAny (model prog w) A (call (.ref f) pos kw) (fun v s' => P v s' ∧ Keeps s s') E s := by
  refine wpAny_call (codeAny_call_def (binds := binds) hroom (G.X _ _ ho) rfl G.nolimit (codeRec_of G.X hcd) rfl hbind hcell hloc (fun h₁ hns hk₁ => ?_) hco hgen hk)
  refine wpAny_mono (h { s with heap := h₁, toks := s.toks + binds.length } ⟨⟨hns, hk₁, Nat.le_refl _⟩, fun a o e => (by cases e), fun a o e => (by cases e), rfl, rfl, rfl⟩) (fun fl s' x => ?_) fun _ _ x => x.elim
  obtain ⟨hP, L, m', N', I⟩ := x
  exact ⟨hP, I.keepsOf (z := Zx.of s)⟩
end

/-- a call within a walk: by what is shown of it -/
theorem r_call {prog : Program} {w : World} {A : Around} {E : Value → Shared → Prop} {h₀ : Heap} {L : Addr} {m : PySem.Str → Option Value} {N : Led} {z : Zx} {s : Shared} {t : Sem Value} {P : Value → Shared → Prop} {Q : Value → Shared → Prop}
    (I : In h₀ L m N z s) (c : wpAny (model prog w) A t (fun v s' => P v s' ∧ Keeps s s') (fun _ _ => False) s) (h : ∀ v s', P v s' → Keeps s s' → In h₀ L m N z s' → Q v s') : wpAny (model prog w) A t Q E s :=
  wpAny_mono c (fun v s' x => h v s' x.1 x.2 (I.keeps x.2)) fun _ _ x => x.elim

theorem r_none {M : Model} {A : Around} {E : Value → Shared → Prop} {s : Shared} {env : Env} {k : Nat} {pos : Pos} {Q : Value → Shared → Prop} (h : Q .none s) : wpAny M A (eval (.Constant .none k pos) env) Q E s := fun _ _ _ => h
theorem r_bool {M : Model} {A : Around} {E : Value → Shared → Prop} {s : Shared} {env : Env} {b : Bool} {k : Nat} {pos : Pos} {Q : Value → Shared → Prop} (h : Q (.bool b) s) : wpAny M A (eval (.Constant (.bool b) k pos) env) Q E s := fun _ _ _ => h
section
variable {prog : Program} {w : World} {A : Around} {E : Value → Shared → Prop} {h₀ : Heap} {m : PySem.Str → Option Value} {N : Led} {z : Zx} {s : Shared} {L : Addr}
theorem r_iaddS {x y : PySem.Str} {t u : Tok} {Q : Value → Shared → Prop} (I : In h₀ L m N z s) (h : ∀ t s', In h₀ L m N z s' → Q (.str (x ++ y) t) s') (hsz : x.length + y.length ≤ sizeLine) :
    wpAny (model prog w) A (inplaceOp .Add (.str x t) (.str y u)) Q E s := PyProof.Rows.iadd_str (fun _ _ => h _ _ (I.toks _)) hsz
theorem r_addI {a b : Int} {t u : Tok} {Q : Value → Shared → Prop} (I : In h₀ L m N z s) (h : ∀ t s', In h₀ L m N z s' → Q (.int (a + b) t) s') :
    wpAny (model prog w) A (binaryOp .Add (.int a t) (.int b u)) Q E s := add_int (h _ _ (I.toks _))
theorem r_subI {a b : Int} {t u : Tok} {Q : Value → Shared → Prop} (I : In h₀ L m N z s) (h : ∀ t s', In h₀ L m N z s' → Q (.int (a - b) t) s') :
    wpAny (model prog w) A (binaryOp .Sub (.int a t) (.int b u)) Q E s := sub_int (h _ _ (I.toks _))
end

noncomputable def KeptIn (h₀ : Heap) (s : Shared) (P : Prop) : Prop := (∀ b o, h₀.get? b = some o → s.heap.get? b = some o) ∧ P
theorem kept_in {h₀ : Heap} {L : Addr} {m : PySem.Str → Option Value} {N : Led} {z : Zx} {s : Shared} {P : Prop} (I : In h₀ L m N z s) (h : P) : KeptIn h₀ s P := ⟨I.fr.keep, h⟩
theorem r_cwf {M : Model} {A : Around} {E : Value → Shared → Prop} {h₀ : Heap} {s : Shared} {env : Env} {K : Frag} {mg mb : PySem.Str → Option Value} {pos : Pos} {f : Addr} {e : Expr} {rest : List Expr} {Q : Value → Shared → Prop}
    (G : Glo K mg mb h₀) (ho : fnIn K f = true) (h : wpAny M A (spliced (backTo pos (starEach (e :: rest) env))) (fun vs s₁ => KeptIn h₀ s₁ (wpAny M A (call (.ref f) vs) Q E s₁)) E s)
    (h1 : starEach (e :: rest) env = (false, eval e env) :: starEach rest env) :
    wpAny M A (callWith pos (.ref f) [] (backTo pos (starEach (e :: rest) env)) []) Q E s :=
  by
  unfold fnIn at ho
  split at ho
  · rename_i oc od fd osl q
    exact callWith_meth (o := ⟨oc, od, .func fd, osl⟩) rfl (G.X _ _ q) h h1
  · cases ho
section
variable {prog : Program} {w : World} {A : Around} {E : Value → Shared → Prop} {h₀ : Heap} {m : PySem.Str → Option Value} {N : Led} {z : Zx} {s : Shared} {L : Addr}
theorem r_newList {vs : List Value} {Q : Value → Shared → Prop} (I : In h₀ L m N z s) (h : ∀ a s', N a = none → Keeps s s' → In h₀ L m (N.put a (listOf vs.toArray 0)) z s' → Q (.ref a) s') (hsz : vs.length ≤ sizeLine) :
    wpAny (model prog w) A (newList vs) Q E s :=
  wpAny_newObj_type (h _ _ I.fresh ⟨_, _, rfl, fun _ _ e => Heap.get?_push_of_some _ e⟩ (I.alloc _)) (by show vs.toArray.size ≤ sizeLine; rw [List.size_toArray]; exact hsz)
noncomputable abbrev tupleOf (vs : Array Value) : Obj := { cls := .type "tuple", data := .seq vs }
theorem r_newTuple {vs : List Value} {Q : Value → Shared → Prop} (I : In h₀ L m N z s) (h : ∀ a s', N a = none → Keeps s s' → In h₀ L m (N.put a (tupleOf vs.toArray)) z s' → Q (.ref a) s') (hsz : vs.length ≤ sizeLine) :
    wpAny (model prog w) A (newTuple vs) Q E s :=
  wpAny_newObj_type (h _ _ I.fresh ⟨_, _, rfl, fun _ _ e => Heap.get?_push_of_some _ e⟩ (I.alloc _)) (by show vs.toArray.size ≤ sizeLine; rw [List.size_toArray]; exact hsz)
theorem r_itemL {value slice : Expr} {l : Addr} {vs : List Value} {n : Nat} {k : Int} {u : Tok} {v : Value} {Q : Value → Shared → Prop} (I : In h₀ L m N z s) (hl : N l = some (listOf vs.toArray n)) (h0 : 0 ≤ k) (h1 : k < 2 ^ 63) (hx : vs[k.toNat]? = some v) (h : Q v s)
    (hs : subscripted slice false (.ref l) (.int k u) = operate [.ref l, .int k u] (getItem (.ref l) (.int k u)) := by with_unfolding_all rfl) :
    wpAny (model prog w) A (subscriptTail value slice (.ref l) (.int k u)) Q E s :=
  have hL : s.heap.IsList l vs.toArray := ⟨_, I.get hl, rfl, _, rfl⟩
  tail_any hL.typeIs slot_list_getitem.lookup (wpAny_getItem_list hL h0 h1 (by simpa using hx) h) hs
end
theorem reads_list {h : Heap} {a : Addr} {vs : List Value} {n : Nat} {ds : List PyData} {as : List Addr} (e : h.get? a = some (listOf vs.toArray n)) (r : ReadsAll h vs ds as) : Reads h (.ref a) (.list ds) (a :: as) := .list e rfl rfl r
theorem reads_tuple {h : Heap} {a : Addr} {vs : List Value} {ds : List PyData} {as : List Addr} (e : h.get? a = some (tupleOf vs.toArray)) (r : ReadsAll h vs ds as) : Reads h (.ref a) (.tuple ds) as := .tuple e rfl rfl r
theorem fmodN (a b : Nat) : Int.fmod (a : Int) (b : Int) = ((a % b : Nat) : Int) := by rw [Int.fmod_eq_emod_of_nonneg _ (by omega)]; rfl
section
variable {prog : Program} {w : World} {A : Around} {E : Value → Shared → Prop} {h₀ : Heap} {m : PySem.Str → Option Value} {N : Led} {z : Zx} {s : Shared} {L : Addr}
end

/-- a value that «is» can be asked of -/
noncomputable def TokOk : Value → Prop
  | .str _ t => t ≠ 0
  | .int _ t => t ≠ 0
  | .ref _ => True
  | .none => True
  | .bool _ => True
  | _ => False
section
variable {prog : Program} {w : World} {A : Around} {E : Value → Shared → Prop} {h₀ : Heap} {m : PySem.Str → Option Value} {N : Led} {z : Zx} {s : Shared} {L : Addr}
theorem r_storeT {env : Env} {x : PySem.Str} {v : Value} {Q : Unit → Shared → Prop} (I : In h₀ env.locals m N z s) (h : ∀ s', In h₀ env.locals (upd m x v) N z s' → 0 < s'.toks → Q () s')
    (hk : env.scope.kind = .function := by with_unfolding_all rfl) (hl : env.kindOf x = some .local := by with_unfolding_all rfl) :
    wpAny (model prog w) A (storeName env x v) Q E s :=
  wpAny_storeName_local hl I.fr.ns (fun h' hn hs => h _ (I.set hn hs) (Nat.succ_pos _)) (by rw [hk]; rfl)
theorem r_strT {env : Env} {x : PySem.Str} {k : Nat} {pos : Pos} {Q : Value → Shared → Prop} (I : In h₀ env.locals m N z s) (hp : 0 < s.toks) (h : ∀ t s', In h₀ env.locals m N z s' → t ≠ 0 → Q (.str x t) s') : wpAny (model prog w) A (eval (.Constant (.str x) k pos) env) Q E s :=
  Calls.Constant_str (h _ _ (I.toks _) (Nat.ne_of_gt hp))
theorem r_modT {a b : Int} {t u : Tok} {Q : Value → Shared → Prop} (I : In h₀ L m N z s) (hb : b ≠ 0) (h : ∀ t s', In h₀ L m N z s' → 0 < s'.toks → Q (.int (Int.fmod a b) t) s') :
    wpAny (model prog w) A (binaryOp .Mod (.int a t) (.int b u)) Q E s := mod_int' hb (h _ _ (I.toks _) (Nat.succ_pos _))
theorem r_subT {a b : Int} {t u : Tok} {Q : Value → Shared → Prop} (I : In h₀ L m N z s) (hp : 0 < s.toks) (h : ∀ t s', In h₀ L m N z s' → t ≠ 0 → Q (.int (a - b) t) s') :
    wpAny (model prog w) A (binaryOp .Sub (.int a t) (.int b u)) Q E s := sub_int (h _ _ (I.toks _) (Nat.ne_of_gt hp))
end
-- part A3
/-- z' says no less than z -/
structure Zle (z z' : Zx) : Prop where
  sh : z'.sh = z.sh
  prot : Led.Le z.prot z'.prot
theorem In.drop {h₀ : Heap} {L : Addr} {m : PySem.Str → Option Value} {N : Led} {z z' : Zx} {s : Shared} (I : In h₀ L m N z' s) (l : Zle z z') : In h₀ L m N z s :=
  ⟨I.fr, I.led, fun a o e => I.prot a o (l.prot a o e), l.sh ▸ I.gens, l.sh ▸ I.drawn, l.sh ▸ I.os⟩
-- part A4
/-- a step by what is shown of it alone -/
theorem cut {α : Type} {M : Model} {A : Around} {E : Value → Shared → Prop} {s : Shared} {t : Sem α} {Q : α → Shared → Prop} (R : α → Shared → Prop) (h : wpAny M A t R (fun _ _ => False) s) (k : ∀ a s', R a s' → Q a s') : wpAny M A t Q E s :=
  wpAny_mono h k fun _ _ x => x.elim
theorem cutI {α : Type} {M : Model} {A : Around} {E : Value → Shared → Prop} {h₀ : Heap} {L : Addr} {m : PySem.Str → Option Value} {N : Led} {z : Zx} {s : Shared} {t : Sem α} {Q : α → Shared → Prop} (I : In h₀ L m N z s) (P : α → Prop)
    (h : wpAny M A t (fun a s' => P a ∧ In h₀ L m N z s') (fun _ _ => False) s) (k : ∀ a s', P a → In h₀ L m N z s' → Q a s') : wpAny M A t Q E s :=
  wpAny_mono h (fun a s' x => k a s' x.1 x.2) fun _ _ x => x.elim
section
variable {prog : Program} {w : World} {A : Around} {E : Value → Shared → Prop} {h₀ : Heap} {m : PySem.Str → Option Value} {N : Led} {z : Zx} {s : Shared} {L : Addr} {K : Frag} {mg mb : PySem.Str → Option Value}
theorem r_isi {x t c : Value} {H : Heap → Prop} {b : Bool} {Q : Value → Shared → Prop} (G : Glo K mg mb h₀) (I : In h₀ L m N z s) (Z : KitX K x t H) (p : H s.heap) (e : kitOne K t c = some b) (hx : x ≠ .builtin "__main__.__loader__#opaque")
    (h : ∀ s', In h₀ L m N z s' → Q (.bool b) s') : wpAny (model prog w) A (call (.builtin "isinstance") [x, c]) Q E s :=
  kia_one Z (G.X.keeps I.fr.keep) p e hx fun tk => h _ (I.toks tk)
theorem r_cell {env : Env} {x : PySem.Str} {pos : Pos} {v : Value} {c : Addr} {o : Obj} {Q : Value → Shared → Prop} (I : In h₀ env.locals m N z s) (hc : env.cells.lookup x = some c) (hN : N c = some o) (hd : o.data = .cell (some v)) (h : Q v s)
    (hk : env.scope.kind = .function := by with_unfolding_all rfl) (hl : env.kindOf x = some .cell := by with_unfolding_all rfl) (hd : (x == ("__debug__" : PySem.Str)) = false := by decide) :
    wpAny (model prog w) A (eval (.Name x pos) env) Q E s := wpAny_Name (wpAny_loadName_cell hk hl hc ⟨o, I.get hN, by assumption⟩ h) hd
end
-- MACROS
local macro_rules | `(tactic| walk_at "sz") => `(tactic| first | decide | with_unfolding_all ((simp only [PySem.Str.length_append]); (show _ ≤ 16777216); omega) | with_unfolding_all ((show _ ≤ 16777216); omega))
local macro_rules | `(tactic| walk_at "look") => `(tactic| first
  | with_reducible assumption
  | with_reducible exact upd_same
  | (with_reducible exact upd_ne (by with_unfolding_all decide +kernel) (by walk_at "look"))
  | with_unfolding_all rfl)
local macro_rules | `(tactic| walk_at "boot") => `(tactic| first | exact boot_len | exact boot_isinstance | exact boot_str | exact boot_int)
set_option hygiene false in
local macro_rules | `(tactic| walk_at "gK") => `(tactic| ((try clear KK); (refine letQ ?_); intro KK))
local macro_rules | `(tactic| walk_at "gs") => `(tactic| repeat walk_at "g1")
local macro_rules | `(tactic| walk_at "g1") => `(tactic| first
  | ((with_reducible show wpAny _ _ (execs _ _) _ _ _); first
    | (with_reducible refine x_assign ?_; walk_at "gK")
    | (with_reducible refine x_aug ?_; walk_at "gK")
    | ((with_reducible refine x_if ?_))
    | ((with_reducible refine x_ret ?_))
    | ((with_reducible refine x_nil ?_)))
  | ((with_reducible show wpAny _ _ (eval _ _) _ _ _); first
    | ((with_reducible refine r_none ?_))
    | ((with_reducible refine r_bool ?_))
    | ((with_reducible refine r_int (by assumption) ?_); intro _ _ _)
    | ((with_reducible refine r_strT (by assumption) (by assumption) ?_); intro _ _ _ _)
    | ((with_reducible refine r_str (by assumption) ?_); intro _ _ _)
    | ((with_reducible refine r_name (by assumption) (by walk_at "look") ?_))
    | ((with_reducible refine r_global (by assumption) (by assumption) (by k_is) ?_))
    | ((with_reducible refine r_builtin (by assumption) (by assumption) (by k_is) (by walk_at "boot") ?_))
    | ((with_reducible refine wpAny_BinOp ?_))
    | ((with_reducible refine Subscript_ ?_))
    | ((with_reducible refine wpAny_Compare1 ?_ (by with_unfolding_all rfl)))
    | ((with_reducible refine Call_ ?_ (by with_unfolding_all rfl)))
    | ((with_reducible refine MethodCall_ ?_ (by with_unfolding_all rfl)))
    | ((with_reducible refine wpAny_UnaryOp ?_))
    | ((with_reducible refine List_ ?_))
    | ((with_reducible refine Tuple_ ?_)))
  | ((with_reducible refine then_next ?_))
  | ((with_reducible refine then_ret ?_))
  | ((with_reducible refine r_load (by assumption) (by walk_at "look") ?_))
  | ((with_reducible refine r_storeT (by assumption) ?_); intro _ _ _)
  | ((with_reducible refine wpAny_truthy_bool ?_))
  | ((with_reducible refine PyProof.Rows.callWith_builtin1 (wpAny_items_cons ?_ (by with_unfolding_all rfl)) (by with_unfolding_all rfl) (by with_unfolding_all rfl)))
  | ((with_reducible refine wpAny_items_cons ?_ (by with_unfolding_all rfl)))
  | ((with_reducible refine wpAny_items_nil ?_))
  | ((with_reducible refine r_gt ?_))
  | ((with_reducible refine lt_int ?_))
  | ((with_reducible refine le_int ?_))
  | ((with_reducible refine ge_int ?_))
  | ((with_reducible refine eq_int ?_))
  | ((with_reducible refine if_t ?_))
  | ((with_reducible refine if_f ?_))
  | ((with_reducible refine r_addI (by assumption) ?_); intro _ _ _)
  | ((with_reducible refine r_subI (by assumption) ?_); intro _ _ _)
  | ((with_reducible refine r_modT (by assumption) (by first | decide | assumption) ?_); intro _ _ _ _)
  | ((with_reducible refine r_div (by assumption) (by first | decide | assumption) ?_ (.inl (PyProof.noPylong_small (by decide)))); intro _ _ _)
  | ((with_reducible refine r_addS (by assumption) ?_ (by walk_at "sz")); intro _ _ _)
  | ((with_reducible refine r_iaddS (by assumption) ?_ (by walk_at "sz")); intro _ _ _)
  | ((with_reducible refine r_cwf (by assumption) (by k_is) (wpAny_items_cons ?_ (by with_unfolding_all rfl)) (by with_unfolding_all rfl)))
  | ((with_reducible refine kept_in (by assumption) ?_))
  | ((with_reducible refine r_newList (by assumption) ?_ (by with_unfolding_all exact of_decide_eq_true rfl)); intro _ _ _ _ _)
  | ((with_reducible refine r_newTuple (by assumption) ?_ (by with_unfolding_all exact of_decide_eq_true rfl)); intro _ _ _ _ _)
  | ((with_reducible refine wpAny_isTrue_Compare1 ?_ (by with_unfolding_all rfl)))
  | ((with_reducible refine wpAny_allTrue_Or_cons ?_))
  | ((with_reducible refine wpAny_allTrue_Or_nil ?_))
  | ((with_reducible refine wpAny_allTrue_And_cons ?_))
  | ((with_reducible refine wpAny_allTrue_And_nil ?_))
  | ((with_reducible refine wpAny_isTrue_Not ?_))
  | ((with_reducible refine isTrue_chain ?_ (by with_unfolding_all rfl)))
  | ((with_reducible refine test_link ?_))
  | ((with_reducible refine test_last ?_))
  | ((with_reducible refine not_of ?_))
  | ((with_reducible refine wpAny_is_other (by with_unfolding_all rfl) ?hne ?_); (case hne => (intro h; cases h)))
  | ((with_reducible refine wpAny_is_self (by with_unfolding_all rfl) ?_))
  | ((with_reducible refine is_bool ?_))
  | ((with_reducible refine PyProof.Rows.eq_str ?_))
  | ((with_reducible refine GM.join ?_))
  | ((with_reducible refine PyProof.Rows.callWith_method1 (wpAny_items_cons ?_ (by with_unfolding_all rfl)) (by with_unfolding_all rfl) (by with_unfolding_all rfl)))
  | ((with_reducible refine isTrue_plain ?_ (by with_unfolding_all rfl)))
  | ((with_reducible show wpAny _ _ (call (Value.builtin _) (_ ++ _)) _ _ _); dsimp only [List.cons_append, List.nil_append])
  | walk_at "ext"
  | fail "no step")
-- END MACROS
-- part A5
section
variable {prog : Program} {w : World} {A : Around} {E : Value → Shared → Prop} {s : Shared}
end

theorem boot_ValueError : bootBuiltins (Str.ofString "ValueError") = some (.type "ValueError") := by kernel_rfl
-- MACROS
local macro_rules | `(tactic| walk_at "boot") => `(tactic| first | exact boot_ValueError)
local macro_rules | `(tactic| walk_at "ext") => `(tactic| ((with_reducible show wpAny _ _ (callWith _ (Value.type _) [] _ _) _ _ _); (with_reducible refine PyProof.Rows.callWith_type1 (wpAny_items_cons ?_ (by with_unfolding_all rfl)) (by with_unfolding_all rfl) (by with_unfolding_all rfl))))
-- END MACROS
-- part A6
/-- the frames that stand below a call -/
structure Stk (A : Around) (outer : List Env) (h : Heap) : Prop where
  stack : A.frames = some outer
  frames : h.FunFrames {} outer
theorem get_empty (a : Addr) : ({} : Heap).get? a = none := by simp [Heap.get?]
theorem Stk.push {A : Around} {outer : List Env} {h₀ : Heap} {env : Env} {m : PySem.Str → Option Value} {N : Led} {z : Zx} {s : Shared} (K : Stk A outer h₀) (I : In h₀ env.locals m N z s)
    (hf : env.frame = some env.locals := by with_unfolding_all rfl) (hk : env.scope.kind = .function := by with_unfolding_all rfl) : Stk (A.deeper env) (env :: outer) s.heap :=
  ⟨Around.frames_deeper K.stack, .cons (by rw [hk]; decide) hf I.fr.ns (get_empty _) (K.frames.of_keeps fun b o e _ => ⟨o, I.fr.keep b o e, rfl⟩)⟩

/-- an exception on its way out of a call that began at s; H: what of s's heap stays as it was -/
structure Fly (H : Heap) (outer : List Env) (e : Addr) (cls : Value) (vs : List Value) (z : Shared) (s' : Shared) : Prop where
  ex : ∃ B t, (∀ b o, H.get? b = some o → b ∉ outer.filterMap (·.frame) → B.get? b = some o) ∧ Heap.FlyingW B outer e cls (.ref t) s'.heap ∧ s'.heap.TupAt t vs ∧ B.get? t = none
  slots : H.UpToSlots s'.heap
  gens : s'.gens = z.gens
  drawn : s'.drawn = z.drawn
  os : s'.os = z.os
theorem funFrames_sub {h base base' : Heap} : ∀ {l : List Env}, h.FunFrames base l → (∀ b ∈ l.filterMap (·.frame), base'.get? b = none) → h.FunFrames base' l
  | [], _, _ => trivial
  | env :: _, ⟨hk, ⟨L, o, hf, _, ho, hd⟩, hr⟩, hin => ⟨hk, ⟨L, o, hf, hin L (by rw [List.filterMap_cons, hf]; exact .head _), ho, hd⟩, funFrames_sub hr fun b hb => hin b (by rw [List.filterMap_cons, hf]; exact .tail _ hb)⟩
section
variable {M : Model} {A : Around} {E : Value → Shared → Prop} {H : Heap} {env : Env} {outer : List Env} {m : PySem.Str → Option Value} {N : Led} {z : Zx} {s₁ s₂ : Shared} {e : Addr} {cls : Value} {vs : List Value} {Q : Unit → Shared → Prop}
end

/-- the map of names behind «except … as n» -/
noncomputable def updo (m : PySem.Str → Option Value) (x : PySem.Str) (v : Option Value) : PySem.Str → Option Value := fun y => if y = x then v else m y
theorem updo_ne {m : PySem.Str → Option Value} {x y : PySem.Str} {v : Value} {v' : Option Value} (hne : y ≠ x) (h : m y = some v) : updo m x v' y = some v := by simp [updo, hne, h]
theorem In.fly {h₀ : Heap} {env : Env} {m : PySem.Str → Option Value} {N : Led} {z : Zx} {s s' : Shared} {B : Heap} (I : In h₀ env.locals m N z s)
    (hB : ∀ b o, s.heap.get? b = some o → b ≠ env.locals → B.get? b = some o) (hs : B.StaysIn s'.heap) (sl : s.heap.UpToSlots s'.heap) (hg : s'.gens = s.gens) (hd : s'.drawn = s.drawn) (ho : s'.os = s.os) :
    In h₀ env.locals m N z s' :=
  have k : ∀ b o, s.heap.get? b = some o → b ≠ env.locals → s'.heap.get? b = some o := fun b o e hb => hs b o (hB b o e hb)
  have hL : ∀ b o, h₀.get? b = some o → b ≠ env.locals := fun b o e q => by rw [q] at e; exact absurd (Nat.lt_of_lt_of_le (Heap.lt_size e) I.fr.above) (Nat.lt_irrefl _)
  ⟨⟨sl.ns I.fr.ns, fun b o e => k b o (I.fr.keep b o e) (hL b o e), I.fr.above⟩, fun a o e => ⟨k a o (I.led a o e).1 (I.led a o e).2.1, (I.led a o e).2⟩,
    fun a o e => ⟨k a o (I.prot a o e).1 (I.prot a o e).2.1, (I.prot a o e).2⟩, hg.trans I.gens, hd.trans I.drawn, ho.trans I.os⟩
/-- an object that is there and new comes into the ledger -/
theorem In.addLed {h₀ : Heap} {L : Addr} {m : PySem.Str → Option Value} {N : Led} {z : Zx} {s : Shared} (I : In h₀ L m N z s) {a : Addr} {o : Obj} (h : s.heap.get? a = some o) (h1 : a ≠ L) (h2 : h₀.get? a = none) (h3 : z.prot a = none) : In h₀ L m (N.put a o) z s :=
  ⟨I.fr, fun b x e => by
    by_cases hb : b = a
    · subst hb; rw [Led.put_same] at e; cases e; exact ⟨h, h1, h2⟩
    · rw [Led.put_ne hb] at e; exact I.led b x e, fun b x e => ⟨(I.prot b x e).1, (I.prot b x e).2.1, (I.prot b x e).2.2.1, Led.put_none (I.prot b x e).2.2.2 fun y => by rw [y, h3] at e; cases e⟩, I.gens, I.drawn, I.os⟩

structure Thrown (N : Led) (e t : Addr) (cls : Value) (vs : List Value) : Prop where
  e : ∃ oe ws, N e = some oe ∧ oe.cls = cls ∧ oe.data = .fields ws ∧ ws[0]? = some (.ref t)
  t : ∃ ot nt, N t = some ot ∧ ot.cls = .type "tuple" ∧ ot.data = .seq vs.toArray nt

section
variable {prog : Program} {w : World} {A : Around} {E : Value → Shared → Prop} {h₀ : Heap} {m : PySem.Str → Option Value} {N : Led} {z : Zx} {s s' : Shared} {env : Env} {K : Frag} {mg mb : PySem.Str → Option Value}
  {e : Addr} {vs : List Value} {n x : PySem.Str} {b₀ : Stmt} {suite : List Stmt} {pos np : Pos} {rest : List ExceptHandler} {Q : Flow → Shared → Prop} {X T' : String}
theorem caught (G : Glo K mg mb h₀) (hA : A.frames = some [env]) (I : In h₀ env.locals m N z s) (Fl : Fly s.heap [env] e (.type X) vs s s')
    (hgl : nsIn K mainGlobals x = some none) (hv : bootBuiltins x = some (.type T'))
    (hexc : isSubtype (.type T') (.type "BaseException") = pure true) (hnt : isSubtype (.type ((Manifest.find? T').elim "type" fun y => y.metatype)) (.type "tuple") = pure false) (hsub : isSubtype (.type X) (.type T') = pure true)
    (k : ∀ s'' N' t, Led.Le N N' → Thrown N' e t (.type X) vs → In h₀ env.locals (upd m n (.ref e)) N' z s'' →
      wpAny (model prog w) (A.mark (some (.ref e))) (execs (b₀ :: suite) env)
        (fun f s₄ => ∃ m' N' z', In h₀ env.locals m' N' z' s₄ ∧ ∀ s₅ v, In h₀ env.locals (updo m' n v) N' z' s₅ → Q f s₅) (fun _ _ => False) s'')
    (hn : x ≠ "__name__" := by decide +kernel) (hf : env.frame = some env.locals := by with_unfolding_all rfl)
    (hg : env.globals = mainGlobals := by with_unfolding_all rfl) (hb : env.builtins = builtinsNs := by with_unfolding_all rfl)
    (hk : env.scope.kind = .function := by with_unfolding_all rfl) (hlo : env.kindOf n = some .local := by with_unfolding_all rfl) (hx : env.kindOf x = some .globalImplicit := by with_unfolding_all rfl) (hd : (x == ("__debug__" : PySem.Str)) = false := by decide) :
    wpAny (model prog w) A (noteFrame (.ref e) env)
      (fun _ s₂ => wpAny (model prog w) A (setFlight (.ref e) none) (fun _ s₃ =>
        wpAny (model prog w) A (handleBy (.ref e) env (.ExceptHandler (some (.Name x np)) (some n) (b₀ :: suite) pos :: rest)) Q E s₃) E s₂) E s' := by
  obtain ⟨⟨B, t, hB, hfl, htup, hnew⟩, hsl, g1, g2, g3⟩ := Fl
  have hB' : ∀ b o, s.heap.get? b = some o → b ≠ env.locals → B.get? b = some o := fun b o q hne => hB b o q fun hm => by
    rw [List.filterMap_cons, hf] at hm
    rcases List.mem_cons.mp hm with rfl | hm
    · exact hne rfl
    · cases hm
  have hL : B.get? env.locals = none := by
    obtain ⟨_, ⟨L', _, hf', hn', _⟩, _⟩ := hfl.2.2.1
    rw [hf] at hf'; cases hf'; exact hn'
  refine wpAny_looks_onW hA hf hfl fun h₄ hheld₄ hsm₄ => ?_
  refine wpAny_landsW hheld₄ fun h₅ hheld hsm₅' => ?_
  have hsm₅ := hsl.trans (hsm₄.trans hsm₅')
  have I₅ : In h₀ env.locals m N z { s' with heap := h₅ } := I.fly hB' hheld.1 hsm₅ g1 g2 g3
  obtain ⟨ob, hob, hobc⟩ := hheld.there
  refine wpAny_handleBy_builtin_as (X := X) (T := T') (b := true) hexc hnt hsub (r_builtin G I₅ hgl hv ⟨rfl, ⟨ob, hob, hobc⟩, ?_⟩ hn hg hb hk hx hd)
  refine lands_againW hheld fun h₆ hfl₆ hsm₆ => ?_
  have I₆ : In h₀ env.locals m N z { s' with heap := h₆ } := I.fly hB' hfl₆.1 (hsm₅.trans hsm₆) g1 g2 g3
  obtain ⟨oe, ws, hoe, hoec, hoed, hoe0⟩ := hfl₆.first
  obtain ⟨ot, nt, hot, hotc, hotd⟩ := (htup.of_slots (hsm₄.trans hsm₅')).of_slots hsm₆
  have het : t ≠ e := fun q => by rw [q, hoe] at hot; cases hot; rw [hoed] at hotd; cases hotd
  have fresh : ∀ a, B.get? a = none → a ≠ env.locals → h₀.get? a = none ∧ z.prot a = none ∧ N a = none := fun a ha hne => by
    refine ⟨?_, ?_, ?_⟩
    · cases q : h₀.get? a with
      | none => rfl
      | some o => rw [hB' a o (I.fr.keep a o q) hne] at ha; cases ha
    · cases q : z.prot a with
      | none => rfl
      | some o => rw [hB' a o (I.prot a o q).1 hne] at ha; cases ha
    · cases q : N a with
      | none => rfl
      | some o => rw [hB' a o (I.led a o q).1 hne] at ha; cases ha
  obtain ⟨oL, es, ep, hoL, hLd, _⟩ := I₆.fr.ns
  have neL : ∀ a o, h₆.get? a = some o → o.data ≠ oL.data → a ≠ env.locals := fun a o q hdn y => by
    subst y
    have : h₆.get? env.locals = some oL := hoL
    rw [q] at this; cases this; exact hdn rfl
  have ne1 : e ≠ env.locals := neL e oe hoe (by rw [hoed, hLd]; intro q; cases q)
  have ne2 : t ≠ env.locals := neL t ot hot (by rw [hotd, hLd]; intro q; cases q)
  have Fe := fresh e hfl₆.2.1 ne1
  have Ft := fresh t hnew ne2
  have I₇ := (I₆.addLed hot ne2 Ft.1 Ft.2.1).addLed hoe ne1 Fe.1 Fe.2.1
  have hle : Led.Le N ((N.put t ot).put e oe) := (Led.le_put Ft.2.2).trans (Led.le_put (Led.put_none Fe.2.2 (Ne.symm het)))
  refine r_store I₇ (fun s₈ I₈ => ?_) hk hlo
  refine wpAny_mono (k s₈ _ t hle ⟨⟨oe, ws, Led.put_same, hoec, hoed, hoe0⟩, ⟨ot, nt, by rw [Led.put_ne het]; exact Led.put_same, hotc, hotd⟩⟩ I₈) (fun f s₄ x => ?_) fun _ _ x => x.elim
  obtain ⟨m', N', z', I₉, hq⟩ := x
  exact wpAny_nameGoes_keeps hlo I₉.fr.ns (by rw [hk]; rfl) fun h' v hn hs => hq _ v (I₉.set hn hs)

theorem r_strExc {L : Addr} {cn : String} {t : Addr} {y : PySem.Str} {u : Tok} {Q : Value → Shared → Prop} (FX : ExcStrFacts X cn) (I : In h₀ L m N z s) (T : Thrown N e t (.type X) [.str y u]) (hu : A.units + 2 < cLine) (h : Q (.str y u) s) :
    wpAny (model prog w) A (call (.type "str") [.ref e]) Q E s := by
  obtain ⟨⟨oe, ws, h1, h2, h3, h4⟩, ⟨ot, nt, h5, h6, h7⟩⟩ := T
  exact P.str_of_exc_one FX hu ⟨oe, ws, I.get h1, h2, h3, h4⟩ ⟨ot, nt, I.get h5, h6, h7⟩ h
end
-- part A7
/-- all that lies in the heap h and is neither of h₀ nor the frame L -/
noncomputable def allNews (h₀ : Heap) (L : Addr) (h : Heap) : List (Addr × Obj) := (List.range h.objs.size).filterMap fun a => if a = L ∨ (h₀.get? a).isSome = true then none else (h.get? a).map fun o => (a, o)
theorem mem_allNews {h₀ h : Heap} {L a : Addr} {o : Obj} : (a, o) ∈ allNews h₀ L h ↔ h.get? a = some o ∧ a ≠ L ∧ h₀.get? a = none := by
  unfold allNews
  rw [List.mem_filterMap]
  constructor
  · rintro ⟨b, hb, e⟩
    split at e
    · cases e
    · rename_i hn
      obtain ⟨o', ho', e'⟩ := Option.map_eq_some_iff.mp e
      cases e'
      refine ⟨ho', fun q => hn (.inl q), ?_⟩
      cases q : h₀.get? a with
      | none => rfl
      | some x => exact absurd (.inr (by rw [q]; rfl)) hn
  · rintro ⟨h1, h2, h3⟩
    refine ⟨a, List.mem_range.mpr (Heap.lt_size h1), ?_⟩
    rw [if_neg (fun q => q.elim h2 fun q => by rw [h3] at q; cases q), h1]
    rfl
section
variable {h₀ : Heap} {L : Addr} {m m' : PySem.Str → Option Value} {N : Led} {z : Zx} {s : Shared}
theorem In.news (_I : In h₀ L m N z s) : News h₀ L s.heap (allNews h₀ L s.heap) := fun p hp => mem_allNews.mp hp
theorem In.back (I : In h₀ L m N z s) {h' : Heap} {tk : Nat} {nw : List (Addr × Obj)} (F : Fr h₀ L h' m') (hn : News h₀ L h' nw) (hs : ∀ p ∈ allNews h₀ L s.heap, p ∈ nw) : In h₀ L m' N z { s with heap := h', toks := tk } :=
  ⟨F, fun a o e => ⟨(hn _ (hs _ (mem_allNews.mpr (I.led a o e)))).1, (I.led a o e).2⟩,
    fun a o e => ⟨(hn _ (hs _ (mem_allNews.mpr ⟨(I.prot a o e).1, (I.prot a o e).2.1, (I.prot a o e).2.2.1⟩))).1, (I.prot a o e).2⟩, I.gens, I.drawn, I.os⟩
theorem In.notOld (I : In h₀ L m N z s) {a : Addr} (h : ∀ p ∈ allNews h₀ L s.heap, p.1 < a) : N a = none ∧ z.prot a = none := by
  refine ⟨?_, ?_⟩
  · cases e : N a with
    | none => rfl
    | some o => exact absurd (h _ (mem_allNews.mpr (I.led a o e))) (Nat.lt_irrefl _)
  · cases e : z.prot a with
    | none => rfl
    | some o => exact absurd (h _ (mem_allNews.mpr ⟨(I.prot a o e).1, (I.prot a o e).2.1, (I.prot a o e).2.2.1⟩)) (Nat.lt_irrefl _)
end
section
variable {prog : Program} {w : World} {A : Around} {E : Value → Shared → Prop} {h₀ : Heap} {m : PySem.Str → Option Value} {N : Led} {z : Zx} {s : Shared} {L : Addr} {K : Frag} {mg mb : PySem.Str → Option Value}
/-- an object of a class without __init__ -/
theorem r_make0 {C : Addr} {Q : Value → Shared → Prop} (G : Glo K mg mb h₀) (I : In h₀ L m N z s) (hm : makesIn K C = true) (hi : findIn K (.ref C) "__init__" = some (some (.builtin "object.__init__")))
    (h : ∀ x dx s', N dx = none → N x = none → x ≠ dx → In h₀ L m ((N.put dx (dictOf [] 0)).put x (instObj C dx)) z s' → Q (.ref x) s') : wpAny (model prog w) A (call (.ref C) [] []) Q E s := by
  refine call_cls0 I.fr G.X I.news hm hi fun x dx h' F' N' hlt hx => ?_
  have I' := I.back (tk := s.toks) F' N' fun p hp => .tail _ (.tail _ hp)
  have n1 := I.notOld hlt
  have n2 := I.notOld fun p hp => Nat.lt_trans (hlt p hp) hx
  have g1 := N' (x, instObj C dx) (.head _)
  have g2 := N' (dx, dictOf [] 0) (.tail _ (.head _))
  have J1 := I'.addLed g2.1 g2.2.1 g2.2.2 n1.2
  exact h x dx _ n1.1 n2.1 (Nat.ne_of_gt hx) (J1.addLed g1.1 g1.2.1 g1.2.2 n2.2)
theorem r_method {x C dx : Addr} {es : List DictEntry} {n : Nat} {name : PySem.Str} {pl : Sem Bool} {f : Addr} {Q : Value × List Value → Shared → Prop} (G : Glo K mg mb h₀) (I : In h₀ L m N z s)
    (hx : N x = some (instObj C dx)) (hd : N dx = some (dictOf es n)) (hg : plainGet K C name = true) (hf : findIn K (.ref C) name = some (some (.ref f))) (ht : isFn K (.ref f) = true) (hl : getL name es = some none)
    (h : Q (.ref f, [.ref x]) s) : wpAny (model prog w) A (getMethod (.ref x) name pl) Q E s :=
  method_inst I.fr G.X ⟨I.get hx, rfl, rfl, I.get hd⟩ hg hf ht hl h
theorem r_cwm {env : Env} {pos : Pos} {f : Addr} {first : List Value} {e : Expr} {rest : List Expr} {Q : Value → Shared → Prop}
    (G : Glo K mg mb h₀) (ho : fnIn K f = true) (h : wpAny (model prog w) A (spliced (backTo pos (starEach (e :: rest) env))) (fun vs s₁ => KeptIn h₀ s₁ (wpAny (model prog w) A (call (.ref f) (first ++ vs)) Q E s₁)) E s)
    (h1 : starEach (e :: rest) env = (false, eval e env) :: starEach rest env) :
    wpAny (model prog w) A (callWith pos (.ref f) first (backTo pos (starEach (e :: rest) env)) []) Q E s := by
  unfold fnIn at ho
  split at ho
  · rename_i oc od fd osl q
    exact callWith_meth (o := ⟨oc, od, .func fd, osl⟩) rfl (G.X _ _ q) h h1
  · cases ho
end

section
variable {prog : Program} {w : World} {A : Around} {E : Value → Shared → Prop} {h₀ : Heap} {m : PySem.Str → Option Value} {N : Led} {z : Zx} {s : Shared} {env : Env} {x : PySem.Str} {px : Pos} {body : List Stmt} {Q : Flow → Shared → Prop}
theorem In.freshAll {L : Addr} (I : In h₀ L m N z s) : s.heap.objs.size ≠ L ∧ h₀.get? s.heap.objs.size = none ∧ z.prot s.heap.objs.size = none := by
  refine ⟨fun e => ?_, ?_, ?_⟩
  · have := I.fr.ns.lt; rw [← e] at this; exact absurd this (Nat.lt_irrefl _)
  · cases e : h₀.get? s.heap.objs.size with
    | none => rfl
    | some o => exact absurd (Heap.lt_size (I.fr.keep _ _ e)) (Nat.lt_irrefl _)
  · cases e : z.prot s.heap.objs.size with
    | none => rfl
    | some o => exact absurd (Heap.lt_size (I.prot _ _ e).1) (Nat.lt_irrefl _)
/-- l + r of lists -/
theorem r_addL {L l b : Addr} {vs ws : List Value} {n k : Nat} {Q : Value → Shared → Prop} (I : In h₀ L m N z s) (hl : N l = some (listOf vs.toArray n)) (hb : N b = some (listOf ws.toArray k))
    (h : ∀ a s', N a = none → Keeps s s' → In h₀ L m (N.put a (listOf (vs ++ ws).toArray 0)) z s' → Q (.ref a) s') (hsz : vs.length + ws.length ≤ sizeLine) :
    wpAny (model prog w) A (binaryOp .Add (.ref l) (.ref b)) Q E s := by
  refine P.add_list (I.get hl) (I.get hb) ?_ (by simpa using hsz)
  have e : vs.toArray ++ ws.toArray = (vs ++ ws).toArray := by simp
  rw [e]
  exact h _ _ I.fresh ⟨_, _, rfl, fun _ _ e => Heap.get?_push_of_some _ e⟩ (I.alloc _)
end
-- part A8
/-- all that lies there beyond the frame, the older heap and what is kept elsewhere -/
noncomputable def fullLed (h₀ : Heap) (L : Addr) (z : Zx) (h : Heap) : Led := fun a => if a = L ∨ (h₀.get? a).isSome = true ∨ (z.prot a).isSome = true then none else h.get? a
section
variable {h₀ : Heap} {L : Addr} {m m' : PySem.Str → Option Value} {N : Led} {z : Zx} {s s' : Shared}
theorem In.full (I : In h₀ L m N z s) : In h₀ L m (fullLed h₀ L z s.heap) z s ∧ Led.Le N (fullLed h₀ L z s.heap) := by
  refine ⟨⟨I.fr, fun a o e => ?_, fun a o e => ⟨(I.prot a o e).1, (I.prot a o e).2.1, (I.prot a o e).2.2.1, ?_⟩, I.gens, I.drawn, I.os⟩, fun a o e => ?_⟩
  · unfold fullLed at e
    split at e
    · cases e
    · rename_i hn
      refine ⟨e, fun q => hn (.inl q), ?_⟩
      cases q : h₀.get? a with
      | none => rfl
      | some x => exact absurd (.inr (.inl (by rw [q]; rfl))) hn
  · unfold fullLed
    rw [if_pos (.inr (.inr (by rw [e]; rfl)))]
  · unfold fullLed
    have P := I.led a o e
    rw [if_neg, P.1]
    rintro (q | q | q)
    · exact P.2.1 q
    · rw [P.2.2] at q; cases q
    · cases hp : z.prot a with
      | none => rw [hp] at q; cases q
      | some x => have := (I.prot a x hp).2.2.2; rw [e] at this; cases this
theorem In.after (I : In h₀ L m N z s) (J : In h₀ L m' (fullLed h₀ L z s.heap) z s') : ∀ b o, s.heap.get? b = some o → b ≠ L → s'.heap.get? b = some o := fun b o e hb => by
  cases q : h₀.get? b with
  | some x => have := I.fr.keep b x q; rw [e] at this; cases this; exact J.fr.keep b o q
  | none =>
    cases r : z.prot b with
    | some x => have := (I.prot b x r).1; rw [e] at this; cases this; exact (J.prot b o r).1
    | none => exact (J.led b o (by unfold fullLed; rw [if_neg (by rw [q, r]; simp [hb])]; exact e)).1
end
noncomputable def strD : PyData → PySem.Str
  | .str x => x
  | d => d.shown
noncomputable def isStrD : PyData → Bool
  | .str _ => true
  | _ => false
section
variable {prog : Program} {w : World} {A : Around} {E : Value → Shared → Prop} {h₀ : Heap} {m : PySem.Str → Option Value} {N : Led} {z : Zx} {s : Shared} {L : Addr} {K : Frag} {mg mb : PySem.Str → Option Value}
end
-- part A9
/-- a for over anything that Walks says of, its body raising nothing; the ledger may change from turn to turn -/
theorem loop_walkN {prog : Program} {w : World} {A : Around} {E : Value → Shared → Prop} {h₀ : Heap} {env : Env} {x : PySem.Str} {px : Pos} {body : List Stmt} {Q : Flow → Shared → Prop}
    {I : Addr} {fp : List Addr} {n : Nat} {P : Nat → Value → Prop} {St : Nat → Heap → Prop} {m : PySem.Str → Option Value} {N : Led} {z : Zx} {s : Shared}
    (Inv : Nat → (PySem.Str → Option Value) → Led → Prop) (W : Walks prog w A I fp [I] n P St) (hI : In h₀ env.locals m N z s)
    (h1 : I ≠ env.locals) (h2 : h₀.get? I = none) (hzp : z.prot I = none) (hN : N I = none) (hst : St 0 s.heap) (h0 : Inv 0 m N)
    (alive : ∀ i h, St i h → ∃ o, h.get? I = some o)
    (hfp : ∀ b ∈ fp, b ≠ I → ∃ ob, ∀ i m N s, Inv i m N → In h₀ env.locals m N z s → s.heap.get? b = some ob)
    (turn : ∀ i v m N z' s, i < n → P i v → Inv i m N → Zle z z' → In h₀ env.locals m N z' s → wpAny (model prog w) A (storeName env x v) (fun _ s₁ => wpAny (model prog w) A (execs body env) (fun f s' => match f with
      | .ret v => Q (.ret v) s'
      | .brk => Q .next s'
      | _ => ∃ m' N', Inv (i + 1) m' N' ∧ In h₀ env.locals m' N' z' s') (fun _ _ => False) s₁) (fun _ _ => False) s)
    (done : ∀ m N s, Inv n m N → In h₀ env.locals m N z s → Q .next s) :
    codeAny (model prog w) A (.forLoop (.Name x px) (.ref I) body [] env) (fun r s' => match r with | .ok f => Q f s' | .error e => cameBackBy (model prog w) A env E e s') s := by
  refine codeAny_mono (codeAny_forLoop (R := fun r s' => ∃ f, r = .ok f ∧ Q f s')
    (fun k s => ∃ i m N, k = n - i ∧ i ≤ n ∧ N I = none ∧ Inv i m N ∧ In h₀ env.locals m N z s ∧ St i s.heap) ?_ n ⟨0, m, N, rfl, Nat.zero_le _, hN, h0, hI, hst⟩) ?_
  · rintro k s ⟨i, m, N, rfl, hi, hNI, hinv, hin, hst⟩
    rcases Nat.lt_or_ge i n with hlt | hge
    · refine W.item i s _ _ hlt hst fun v h' tk hP hst' hk' => ?_
      have hin' : In h₀ env.locals m N z { s with heap := h', toks := tk } := hin.iter h1 h2 hNI hzp (fun b o hb e => hk' b o (fun hm => hb (List.mem_singleton.mp hm)) e)
      obtain ⟨o, hg⟩ := alive _ _ hst'
      have hin2 : In h₀ env.locals m N (z.add I o) { s with heap := h', toks := tk } := hin'.addProt hg h1 h2 hNI
      have hz : Zle z (z.add I o) := ⟨rfl, Led.le_put hzp⟩
      refine wpAny_assign_Name ?_
      refine wpAny_mono (turn i v m N (z.add I o) _ hlt hP hinv hz hin2) (fun _ s₂ y₂ => ?_) fun _ _ y => y.elim
      refine wpAny_mono y₂ (fun f s₃ y => ?_) fun _ _ y => y.elim
      have fin : (∃ m' N', Inv (i + 1) m' N' ∧ In h₀ env.locals m' N' (z.add I o) s₃) → ∃ k', k' < n - i ∧ ∃ i m N, k' = n - i ∧ i ≤ n ∧ N I = none ∧ Inv i m N ∧ In h₀ env.locals m N z s₃ ∧ St i s₃.heap := by
        rintro ⟨m', N', hinv', hin3⟩
        refine ⟨n - (i + 1), by omega, i + 1, m', N', rfl, hlt, (hin3.prot I o Led.put_same).2.2.2, hinv', hin3.drop hz, W.frame _ _ _ hst' fun b hb o' e => ?_⟩
        by_cases hbI : b = I
        · subst hbI
          have e' : h'.get? b = some o' := e
          rw [hg] at e'; cases e'
          exact (hin3.prot b o Led.put_same).1
        · obtain ⟨ob, hob⟩ := hfp b hb hbI
          have e1 := hob i m N _ hinv hin'
          have e2 := hob (i + 1) m' N' _ hinv' (hin3.drop hz)
          have e' : h'.get? b = some ob := e1
          rw [e'] at e; cases e; exact e2
      cases f with
      | ret v => exact ⟨_, rfl, y⟩
      | brk => exact ⟨_, rfl, y⟩
      | next => exact fin y
      | cont => exact fin y
    · have hin0 : i = n := by omega
      subst hin0
      refine W.done s _ _ hst fun h' tk hk' => ?_
      exact wpAny_execs_nil ⟨_, rfl, done m N _ hinv (hin.iter h1 h2 hNI hzp (fun b o hb e => hk' b o (fun hm => hb (List.mem_singleton.mp hm)) e))⟩
  · rintro r s' ⟨f, rfl, q⟩
    exact q
section
variable {prog : Program} {w : World} {A : Around} {E : Value → Shared → Prop} {h₀ : Heap} {m : PySem.Str → Option Value} {N : Led} {z : Zx} {s : Shared} {L : Addr}
theorem r_listMethod {D : Addr} {its : Array Value} {n : Nat} {name : PySem.Str} {id : String} {pl : Sem Bool} {Q : Value × List Value → Shared → Prop} (I : In h₀ L m N z s) (hD : N D = some (listOf its n)) (slot : Slot "list" name id) (hty : typeOf (.builtin id) = pure (.type "method_descriptor"))
    (h : Q (.builtin id, [.ref D]) s) : wpAny (model prog w) A (getMethod (.ref D) name pl) Q E s :=
  listMethod_K I.news (mem_allNews.mpr (I.led D _ hD)) slot hty h
theorem r_append {D : Addr} {vs : List Value} {n : Nat} {x : Value} {Q : Value → Shared → Prop} (I : In h₀ L m N z s) (hD : N D = some (listOf vs.toArray n)) (h : ∀ s' k, In h₀ L m (N.put D (listOf (vs ++ [x]).toArray k)) z s' → Q .none s') (hsz : vs.length ≤ sizeLine) :
    wpAny (model prog w) A (call (.builtin "list.append") [.ref D, x]) Q E s := by
  refine wpAny_list_append_plain ⟨n, I.get hD⟩ (fun h' hp hs => ?_) (by rw [List.size_toArray]; exact hsz)
  obtain ⟨k, hk⟩ := hp
  refine h _ k (I.same (tk := s.toks) hD hs ?_)
  rw [hk]
  simp [Array.push]
theorem r_min {a b : Int} {t u : Tok} {Q : Value → Shared → Prop} (I : In h₀ L m N z s) (hh : A.handled = none) (h : ∀ t s', In h₀ L m N z s' → Q (.int (if b < a then b else a) t) s') :
    wpAny (model prog w) A (call (.builtin "min") [.int a t, .int b u]) Q E s := by
  refine min_two_ints hh fun h' tk hk => ?_
  have I' : In h₀ L m N z { s with heap := h', toks := tk } := I.keeps ⟨h', tk, rfl, hk⟩
  by_cases c : b < a
  · have := h u _ I'; rw [if_pos c] at this ⊢; exact this
  · have := h t _ I'; rw [if_neg c] at this ⊢; exact this
theorem r_max {a b : Int} {t u : Tok} {Q : Value → Shared → Prop} (I : In h₀ L m N z s) (hh : A.handled = none) (h : ∀ t s', In h₀ L m N z s' → Q (.int (if b > a then b else a) t) s') :
    wpAny (model prog w) A (call (.builtin "max") [.int a t, .int b u]) Q E s := by
  refine max_two_ints hh fun h' tk hk => ?_
  have I' : In h₀ L m N z { s with heap := h', toks := tk } := I.keeps ⟨h', tk, rfl, hk⟩
  by_cases c : b > a
  · have := h u _ I'; rw [if_pos c] at this ⊢; exact this
  · have := h t _ I'; rw [if_neg c] at this ⊢; exact this
theorem r_itemNeg {value slice : Expr} {l : Addr} {vs : List Value} {n : Nat} {k : Int} {u : Tok} {v : Value} {Q : Value → Shared → Prop} (I : In h₀ L m N z s) (hl : N l = some (listOf vs.toArray n)) (h0 : k < 0) (h1 : -(vs.length : Int) ≤ k) (h2 : -(2 ^ 63) ≤ k) (hx : vs[(k + vs.length).toNat]? = some v) (h : Q v s)
    (hs : subscripted slice false (.ref l) (.int k u) = operate [.ref l, .int k u] (getItem (.ref l) (.int k u)) := by with_unfolding_all rfl) :
    wpAny (model prog w) A (subscriptTail value slice (.ref l) (.int k u)) Q E s :=
  have hL : s.heap.IsList l vs.toArray := ⟨_, I.get hl, rfl, _, rfl⟩
  tail_any hL.typeIs slot_list_getitem.lookup (wpAny_getItem_list_neg hL h0 (by simpa using h1) h2 (by simpa using hx) h) hs
theorem r_neg {a : Int} {t : Tok} {Q : Value → Shared → Prop} (I : In h₀ L m N z s) (h : ∀ t s', In h₀ L m N z s' → Q (.int (-a) t) s') : wpAny (model prog w) A (unaryOp .USub (.int a t)) Q E s :=
  P.neg_int (h _ _ (I.toks _))
end
-- part A10
/-- what a call leaves as it was: all of H -/
structure Gk (H : Heap) (s s' : Shared) : Prop where
  keep : ∀ b o, H.get? b = some o → s'.heap.get? b = some o
  gens : s'.gens = s.gens
  drawn : s'.drawn = s.drawn
  os : s'.os = s.os
theorem In.gk {H : Heap} {L : Addr} {m : PySem.Str → Option Value} {N : Led} {s s' : Shared} (I : In H L m N (Zx.of s) s') : Gk H s s' := ⟨I.fr.keep, I.gens, I.drawn, I.os⟩
theorem In.ghost {h₀ : Heap} {L : Addr} {m : PySem.Str → Option Value} {N N' : Led} {z : Zx} {s s' : Shared} {W : List Addr} (I : In h₀ L m N z s) (hW : ∀ a ∈ W, ∃ o, N a = some o) (k : Gk (hideAll s.heap W) s s')
    (h : ∀ a o, N' a = some o → (a ∈ W ∧ s'.heap.get? a = some o) ∨ (a ∉ W ∧ N a = some o)) : In h₀ L m N' z s' := by
  have kp : ∀ b o, s.heap.get? b = some o → b ∉ W → s'.heap.get? b = some o := fun b o e hb => k.keep b o (hideAll_get W e hb)
  have old : ∀ b o, h₀.get? b = some o → b ∉ W := fun b o e hb => by
    obtain ⟨x, hx⟩ := hW b hb
    rw [(I.led b x hx).2.2] at e; cases e
  have hL : L ∉ W := fun hb => by obtain ⟨x, hx⟩ := hW L hb; exact (I.led L x hx).2.1 rfl
  obtain ⟨oL, es, ep, hoL, r⟩ := I.fr.ns
  refine ⟨⟨⟨oL, es, ep, kp _ _ hoL hL, r⟩, fun b o e => kp b o (I.fr.keep b o e) (old b o e), I.fr.above⟩, fun a o e => ?_, fun a o e => ?_, k.gens.trans I.gens, k.drawn.trans I.drawn, k.os.trans I.os⟩
  · rcases h a o e with ⟨h1, h2⟩ | ⟨h1, h2⟩
    · obtain ⟨x, hx⟩ := hW a h1
      exact ⟨h2, (I.led a x hx).2⟩
    · exact ⟨kp a o (I.led a o h2).1 h1, (I.led a o h2).2⟩
  · have P := I.prot a o e
    have ha : a ∉ W := fun hb => by obtain ⟨x, hx⟩ := hW a hb; rw [P.2.2.2] at hx; cases hx
    refine ⟨kp a o P.1 ha, P.2.1, P.2.2.1, ?_⟩
    cases q : N' a with
    | none => rfl
    | some x =>
      rcases h a x q with ⟨h1, _⟩ | ⟨_, h2⟩
      · exact absurd h1 ha
      · rw [P.2.2.2] at h2; cases h2
/-- a call of a def of the text over a base heap H: what lies in N₀ it may change -/
theorem call_fnG {prog : Program} {w : World} {A : Around} {s : Shared} {K : Frag} {mg mb : PySem.Str → Option Value} {H : Heap} {N₀ : Led}
    {f : Addr} {pos : List Value} {kw : List (PySem.Str × Value)} {name qual : PySem.Str} {params : Arguments} {body : List Stmt} {scope : Scope} {cl : List (PySem.Str × Addr)} {dV kV doc pm cdv ct oc : Value} {an od : Option Addr} {osl : Array (Option Value)}
    (binds : List (PySem.Str × Value)) (P : Value → Shared → Prop) (X : Value → Shared → Prop) (hH : ∀ b o, H.get? b = some o → s.heap.get? b = some o) (hsz : H.objs.size ≤ s.heap.objs.size) (hN : ∀ a o, N₀ a = some o → s.heap.get? a = some o ∧ H.get? a = none)
    (G : Glo K mg mb H) (hroom : A.depth < recursionLimit)
    (ho : K.lookup f = some ⟨oc, od, .func (fnX name qual params body scope cl dV kV doc pm an cdv ct), osl⟩) (hcd : codeIn K cdv qual = true)
    (hbind : BindsTo s (fnX name qual params body scope cl dV kV doc pm an cdv ct) ⟨pos, kw⟩ binds)
    (hcell : ∀ x ∈ scope.names, x.2 ≠ .cell) (hloc : ∀ x ∈ binds, scope.names.lookup x.1 = some .local)
    (hco : scope.isCoroutine = false) (hgen : scope.isGenerator = false) (hk : scope.kind = .function)
    (h : ∀ s₁, In H s.heap.objs.size (fun x => binds.reverse.lookup x) N₀ (Zx.of s) s₁ →
      wpAny (model prog w) (A.deeper (envX qual scope s.heap.objs.size f cdv cl)) (execs body (envX qual scope s.heap.objs.size f cdv cl))
        (fun fl s' => P (match fl with | .ret v => v | _ => .none) s' ∧ ∃ L m N, In H L m N (Zx.of s) s')
        (fun e s' => wpAny (model prog w) (A.deeper (envX qual scope s.heap.objs.size f cdv cl)) (leaving (envX qual scope s.heap.objs.size f cdv cl) e) (fun _ s'' => X e s'') (fun _ _ => False) s') s₁) :
    wpAny (model prog w) A (call (.ref f) pos kw) (fun v s' => P v s' ∧ Gk H s s') X s := by
  have G' := G.keeps hH
  refine wpAny_call (codeAny_call_def (binds := binds) hroom (G'.X _ _ ho) rfl G'.nolimit (codeRec_of G'.X hcd) rfl hbind hcell hloc (fun h₁ hns hk₁ => ?_) hco hgen hk)
  refine wpAny_mono (h { s with heap := h₁, toks := s.toks + binds.length } ⟨⟨hns, fun b o e => hk₁ b o (hH b o e), hsz⟩, fun a o e => ⟨hk₁ a o (hN a o e).1, Nat.ne_of_lt (Heap.lt_size (hN a o e).1), (hN a o e).2⟩, fun a o e => (by cases e), rfl, rfl, rfl⟩) (fun fl s' x => ?_) fun e s' x => wpAny_mono x (fun _ _ y => y) fun _ _ y => y.elim
  obtain ⟨hP, L, m', N', I⟩ := x
  exact ⟨hP, I.gk⟩
-- part A11
/-- a call of a lambda without cells of its own, over a base heap H -/
theorem call_lamG {prog : Program} {w : World} {A : Around} {s : Shared} {H : Heap} {N₀ : Led}
    {f : Addr} {args : List Value} {name qual : PySem.Str} {params : Arguments} {body : Expr} {scope : Scope} {cl : List (PySem.Str × Addr)} {pm ctv : Value} {c' : Addr}
    (binds : List (PySem.Str × Value)) (P : Value → Shared → Prop) (X : Value → Shared → Prop) (hH : ∀ b o, H.get? b = some o → s.heap.get? b = some o) (hsz : H.objs.size ≤ s.heap.objs.size) (hN : ∀ a o, N₀ a = some o → s.heap.get? a = some o ∧ H.get? a = none)
    (hlim : H.NoLimit) (hroom : A.depth < recursionLimit) (ho : s.heap.get? f = some (kla_obj name qual params body scope cl pm c' ctv)) (hcd : s.heap.CodeRec (.ref c') qual)
    (hbind : bindArgs (kla_fn name qual params body scope cl pm (.ref c') ctv) ⟨args, []⟩ = pure binds)
    (hcell : ∀ x ∈ scope.names, x.2 ≠ .cell) (hloc : ∀ x ∈ binds, scope.names.lookup x.1 = some .local)
    (hco : scope.isCoroutine = false) (hgen : scope.isGenerator = false) (hk : scope.kind = .function)
    (h : ∀ s₁, In H s.heap.objs.size (fun x => binds.reverse.lookup x) N₀ (Zx.of s) s₁ →
      wpAny (model prog w) (A.deeper (envX qual scope s.heap.objs.size f (.ref c') cl)) (eval body (envX qual scope s.heap.objs.size f (.ref c') cl))
        (fun v s' => P v s' ∧ ∃ L m N, In H L m N (Zx.of s) s')
        (fun e s' => wpAny (model prog w) (A.deeper (envX qual scope s.heap.objs.size f (.ref c') cl)) (leaving (envX qual scope s.heap.objs.size f (.ref c') cl) e) (fun _ s'' => X e s'') (fun _ _ => False) s') s₁) :
    wpAny (model prog w) A (call (.ref f) args) (fun v s' => P v s' ∧ Gk H s s') X s := by
  refine wpAny_call (kla_callFunE hroom ho rfl hco hgen rfl hcd ?_)
  rw [hbind]
  refine wpAny_pure (wpAny_newFunctionEnv hcell hloc (fun h₁ hns hsb => ⟨(hlim.keeps hH).fresh _ hsb, ?_⟩) hk)
  have hk₁ : ∀ b o, s.heap.get? b = some o → h₁.get? b = some o := fun b o e => hsb.extBut b o (Nat.ne_of_lt (Heap.lt_size e)) (Heap.get?_push_of_some _ e)
  refine kla_codeExpr (wpAny_mono (h { s with heap := h₁, toks := s.toks + binds.length } ⟨⟨hns, fun b o e => hk₁ b o (hH b o e), hsz⟩, fun a o e => ⟨hk₁ a o (hN a o e).1, Nat.ne_of_lt (Heap.lt_size (hN a o e).1), (hN a o e).2⟩, fun a o e => (by cases e), rfl, rfl, rfl⟩) (fun v s' x => ?_) fun e s' x => wpAny_mono x (fun _ _ y => y) fun _ _ y => y.elim)
  obtain ⟨hP, L, m', N', I⟩ := x
  exact ⟨hP, I.gk⟩
-- part A12
inductive All2 {α β : Type} (R : α → β → Prop) : List α → List β → Prop
  | nil : All2 R [] []
  | cons {a b as bs} : R a b → All2 R as bs → All2 R (a :: as) (b :: bs)
namespace All2
variable {α β : Type} {R R' : α → β → Prop}
theorem length : ∀ {as : List α} {bs : List β}, All2 R as bs → as.length = bs.length
  | _, _, .nil => rfl
  | _, _, .cons _ h => by rw [List.length_cons, List.length_cons, h.length]
theorem mono (k : ∀ a b, R a b → R' a b) : ∀ {as : List α} {bs : List β}, All2 R as bs → All2 R' as bs
  | _, _, .nil => .nil
  | _, _, .cons h t => .cons (k _ _ h) (t.mono k)
theorem append : ∀ {as : List α} {bs : List β} {as' : List α} {bs' : List β}, All2 R as bs → All2 R as' bs' → All2 R (as ++ as') (bs ++ bs')
  | _, _, _, _, .nil, h => h
  | _, _, _, _, .cons x t, h => .cons x (t.append h)
theorem get : ∀ {as : List α} {bs : List β} {i : Nat} {a : α}, All2 R as bs → as[i]? = some a → ∃ b, bs[i]? = some b ∧ R a b
  | _, _, 0, _, .cons h _, e => by simp at e; subst e; exact ⟨_, rfl, h⟩
  | _, _, i + 1, _, .cons _ t, e => by simpa using t.get (i := i) (by simpa using e)
theorem take (n : Nat) : ∀ {as : List α} {bs : List β}, All2 R as bs → All2 R (as.take n) (bs.take n) := by
  intro as bs h
  induction h generalizing n with
  | nil => simp; exact .nil
  | cons x t ih => cases n with
    | zero => simp; exact .nil
    | succ n => simp; exact .cons x (ih n)
theorem dropLast : ∀ {as : List α} {bs : List β}, All2 R as bs → All2 R as.dropLast bs.dropLast
  | _, _, .nil => .nil
  | _, _, .cons _ .nil => .nil
  | _, _, .cons h (.cons h' t) => by
    rw [List.dropLast_cons₂, List.dropLast_cons₂]
    exact .cons h (dropLast (.cons h' t))
end All2
noncomputable abbrev Row := List (Option PySem.Str)
noncomputable def OptIs : Value → Option PySem.Str → Prop
  | .none, none => True
  | .str x _, some y => x = y
  | _, _ => False
theorem OptIs.n : OptIs .none none := trivial
theorem OptIs.s {x : PySem.Str} {t : Tok} : OptIs (.str x t) (some x) := rfl
theorem OptIs.of_none {v : Value} (h : OptIs v none) : v = .none := by cases v <;> first | rfl | exact h.elim
theorem OptIs.of_some {v : Value} {x : PySem.Str} (h : OptIs v (some x)) : ∃ t, v = .str x t := by
  cases v with
  | str y t => have h : y = x := h; subst h; exact ⟨t, rfl⟩
  | _ => exact h.elim
/-- a tuple of texts and Nones -/
noncomputable def RowAt (g : Led) (v : Value) (fl : Row) : Prop := ∃ a vs, v = .ref a ∧ g a = some (tupleOf vs.toArray) ∧ All2 OptIs vs fl
noncomputable abbrev RowsAre (g : Led) : List Value → List Row → Prop := All2 (RowAt g)
noncomputable def StrIs (v : Value) (x : PySem.Str) : Prop := ∃ t, v = .str x t
noncomputable abbrev StrsAre : List Value → List PySem.Str → Prop := All2 StrIs
noncomputable def TupLe (g g' : Led) : Prop := ∀ a vs, g a = some (tupleOf vs) → g' a = some (tupleOf vs)
theorem TupLe.of {g g' : Led} (h : Led.Le g g') : TupLe g g' := fun a _ e => h a _ e
theorem RowAt.mono {g g' : Led} (h : TupLe g g') {v : Value} {fl : Row} (r : RowAt g v fl) : RowAt g' v fl := by
  obtain ⟨a, vs, e, k, x⟩ := r; exact ⟨a, vs, e, h _ _ k, x⟩
theorem RowsAre.mono {g g' : Led} (h : TupLe g g') {vs : List Value} {fls : List Row} (r : RowsAre g vs fls) : RowsAre g' vs fls := All2.mono (fun _ _ x => x.mono h) r
noncomputable def optD : Option PySem.Str → PyData
  | none => .none
  | some x => .str x
noncomputable def rowD (fl : Row) : PyData := .tuple (fl.map optD)
theorem opts_reads (h : Heap) : ∀ {vs : List Value} {fl : Row}, All2 OptIs vs fl → ReadsAll h vs (fl.map optD) []
  | _, _, .nil => .nil
  | _, _, .cons (b := b) x t => by
    have ih := opts_reads h t
    cases b with
    | none => rw [x.of_none]; exact .cons .none ih
    | some y => obtain ⟨t', e⟩ := x.of_some; rw [e]; exact .cons (.str y t') ih
theorem RowAt.reads {h : Heap} {v : Value} {fl : Row} (r : RowAt h.get? v fl) : Reads h v (rowD fl) [] := by
  obtain ⟨a, vs, rfl, k, x⟩ := r
  exact reads_tuple k (opts_reads h x)
theorem rows_reads {h : Heap} : ∀ {vs : List Value} {fls : List Row}, RowsAre h.get? vs fls → ReadsAll h vs (fls.map rowD) []
  | _, _, .nil => .nil
  | _, _, .cons x t => .cons x.reads (rows_reads t)
/-- all but what is in X stays -/
noncomputable def Kp (X : List Addr) (s s' : Shared) : Prop := ∀ b o, b ∉ X → s.heap.get? b = some o → s'.heap.get? b = some o
theorem Gk.kp {W : List Addr} {s s' : Shared} (k : Gk (hideAll s.heap W) s s') : Kp W s s' := fun b _ hb e => k.keep b _ (hideAll_get W e hb)
section
variable {h₀ : Heap} {L : Addr} {m m' : PySem.Str → Option Value} {N N' : Led} {z : Zx} {s s' : Shared}
/-- after a call that may change W: the frame stands, all that lies there is in the ledger anew -/
theorem In.called {W : List Addr} (I : In h₀ L m N z s) (hW : ∀ a ∈ W, ∃ o, N a = some o) (k : Gk (hideAll s.heap W) s s') : In h₀ L m (fullLed h₀ L z s'.heap) z s' := by
  have J : In h₀ L m (fun a => if a ∈ W then none else N a) z s' := I.ghost hW k fun a o e => by
    by_cases ha : a ∈ W
    · rw [if_pos ha] at e; cases e
    · rw [if_neg ha] at e; exact .inr ⟨ha, e⟩
  exact J.full.1
/-- after steps that may change what is in X -/
theorem In.stepped (I : In h₀ L m (fullLed h₀ L z s.heap) z s) (J : In h₀ L m' N' z s') (X : List Addr) (hN : ∀ a o, a ∉ X → fullLed h₀ L z s.heap a = some o → N' a = some o) :
    In h₀ L m' (fullLed h₀ L z s'.heap) z s' ∧ Kp (L :: X) s s' := by
  refine ⟨J.full.1, fun b o hb e => ?_⟩
  have hb1 : b ≠ L := fun q => hb (q ▸ .head _)
  have hb2 : b ∉ X := fun q => hb (.tail _ q)
  cases q : h₀.get? b with
  | some x => have := I.fr.keep b x q; rw [e] at this; cases this; exact J.fr.keep b o q
  | none =>
    cases r : z.prot b with
    | some x => have := (I.prot b x r).1; rw [e] at this; cases this; exact (J.prot b o r).1
    | none => exact (J.led b o (hN b o hb2 (by unfold fullLed; rw [if_neg (by rw [q, r]; simp [hb1])]; exact e))).1
theorem full_get {b : Addr} {o : Obj} (e : s.heap.get? b = some o) (h1 : b ≠ L) (h2 : h₀.get? b = none) (h3 : z.prot b = none) : fullLed h₀ L z s.heap b = some o := by
  unfold fullLed; rw [if_neg (by rw [h2, h3]; simp [h1])]; exact e
theorem In.isNs (I : In h₀ L m N z s) : ∃ o es ep, s.heap.get? L = some o ∧ o.data = .dict es ep := by
  obtain ⟨o, es, ep, h, hd, _⟩ := I.fr.ns; exact ⟨o, es, ep, h, hd⟩
end
section
variable {M : Model} {A : Around} {E : Value → Shared → Prop} {H : Heap} {env : Env} {outer : List Env} {m : PySem.Str → Option Value} {N : Led} {z : Zx} {s₁ s₂ : Shared} {e : Addr} {cls : Value} {vs : List Value} {Q : Unit → Shared → Prop}
theorem Stk.pushG {h₀ : Heap} {s : Shared} {W : List Addr} (K : Stk A outer h₀) (I : In h₀ env.locals m N z s) (hW : ∀ a ∈ W, ∃ o, N a = some o)
    (hf : env.frame = some env.locals := by with_unfolding_all rfl) (hk : env.scope.kind = .function := by with_unfolding_all rfl) : Stk (A.deeper env) (env :: outer) (hideAll s.heap W) := by
  have hL : env.locals ∉ W := fun q => by obtain ⟨x, hx⟩ := hW _ q; exact (I.led _ x hx).2.1 rfl
  have ho : ∀ b o, h₀.get? b = some o → (hideAll s.heap W).get? b = some o := fun b o e => hideAll_get _ (I.fr.keep b o e) fun q => by
    obtain ⟨x, hx⟩ := hW _ q; have := (I.led _ x hx).2.2; rw [e] at this; cases this
  obtain ⟨oL, es, ep, hoL, r⟩ := I.fr.ns
  exact ⟨Around.frames_deeper K.stack, .cons (by rw [hk]; decide) hf ⟨oL, es, ep, hideAll_get _ hoL hL, r⟩ (get_empty _) (K.frames.of_keeps fun b o e _ => ⟨o, ho b o e, rfl⟩)⟩
theorem Fly.less {H H' : Heap} {z z' : Shared} {s' : Shared} (F : Fly H outer e cls vs z s') (k : ∀ b o, H'.get? b = some o → H.get? b = some o) (hg : z'.gens = z.gens) (hd : z'.drawn = z.drawn) (ho : z'.os = z.os) : Fly H' outer e cls vs z' s' := by
  obtain ⟨⟨B, t, hB, x⟩, hsl, g1, g2, g3⟩ := F
  exact ⟨⟨B, t, fun b o q hb => hB b o (k b o q) hb, x⟩, (Heap.UpToSlots.of_keeps k).trans hsl, g1.trans hg.symm, g2.trans hd.symm, g3.trans ho.symm⟩
/-- an exception made here leaves the call: all but the frame's own names is as it was -/
theorem leave_madeG (K : Stk A outer H) (I : In H env.locals m N z s₁) (hx : Heap.MadeExcOf s₁.heap s₂.heap e cls vs) (h : ∀ s', Fly (hideAll s₁.heap [env.locals]) outer e cls vs z.sh s' → Q () s')
    (hg : s₂.gens = s₁.gens := by rfl) (hd : s₂.drawn = s₁.drawn := by rfl) (ho : s₂.os = s₁.os := by rfl)
    (hf : env.frame = some env.locals := by with_unfolding_all rfl) (hk : env.scope.kind = .function := by with_unfolding_all rfl) :
    wpAny M (A.deeper env) (leaving env (.ref e)) Q E s₂ := by
  have K' := K.push I hf hk
  refine wpAny_leaves_madeW (base := hideAll s₁.heap ((env :: outer).filterMap (·.frame))) K'.stack hf (fun b o q => of_hideAll _ q) (funFrames_sub K'.frames fun b hb => hideAll_none _ hb) hx fun h' t x1 x2 x3 x4 =>
    h _ ⟨⟨_, t, fun b o q hb => hideAll_get _ (of_hideAll _ q) fun hm => ?_, x1, x2, x3⟩, ((Heap.UpToSlots.of_keeps fun b o q => of_hideAll _ q).trans (Heap.UpToSlots.of_keeps hx.keeps)).trans x4, hg.trans I.gens, hd.trans I.drawn, ho.trans I.os⟩
  rw [List.filterMap_cons, hf] at hm
  rcases List.mem_cons.mp hm with rfl | hm
  · rw [hideAll_none _ (.head _)] at q; cases q
  · exact hb hm
theorem leave_onG (K : Stk A outer H) (I : In H env.locals m N z s₁) (Fl : Fly s₁.heap (env :: outer) e cls vs s₁ s₂) (h : ∀ s', Fly (hideAll s₁.heap [env.locals]) outer e cls vs z.sh s' → Q () s')
    (hf : env.frame = some env.locals := by with_unfolding_all rfl) :
    wpAny M (A.deeper env) (leaving env (.ref e)) Q E s₂ := by
  obtain ⟨⟨B, t, hB, hfl, htup, ht⟩, hsl, hg, hd, ho⟩ := Fl
  refine wpAny_leaves_onW (Around.frames_deeper K.stack) hf hfl fun h' x1 x2 =>
    h _ ⟨⟨B, t, fun b o q hb => hB b o (of_hideAll _ q) fun hm => ?_, x1, htup.of_slots x2, ht⟩, ((Heap.UpToSlots.of_keeps fun b o q => of_hideAll _ q).trans hsl).trans x2, hg.trans I.gens, hd.trans I.drawn, ho.trans I.os⟩
  rw [List.filterMap_cons, hf] at hm
  rcases List.mem_cons.mp hm with rfl | hm
  · rw [hideAll_none _ (.head _)] at q; cases q
  · exact hb hm
end
section
variable {prog : Program} {w : World} {A : Around} {E : Value → Shared → Prop} {h₀ : Heap} {m : PySem.Str → Option Value} {N : Led} {z : Zx} {s : Shared} {L : Addr}
theorem r_itemT {value slice : Expr} {l : Addr} {vs : List Value} {k : Int} {u : Tok} {v : Value} {Q : Value → Shared → Prop} (hl : s.heap.get? l = some (tupleOf vs.toArray)) (h0 : 0 ≤ k) (h1 : k < 2 ^ 63) (hx : vs[k.toNat]? = some v) (h : Q v s)
    (hs : subscripted slice false (.ref l) (.int k u) = operate [.ref l, .int k u] (getItem (.ref l) (.int k u)) := by with_unfolding_all rfl) :
    wpAny (model prog w) A (subscriptTail value slice (.ref l) (.int k u)) Q E s :=
  have hL : s.heap.IsTuple l vs.toArray := ⟨_, hl, rfl, _, rfl⟩
  have hlt : k < (vs.length : Int) := by
    have := (List.getElem?_eq_some_iff.mp hx).1; omega
  tail_any hL.typeIs slot_tuple_getitem.lookup (getItem_tuple (j := k.toNat) hL (by omega) h1 (by unfold seqIndex?; simp only [show ¬ k < 0 by omega, if_false]; simp [h0, hlt]) (by simpa using hx) h) hs
theorem r_free {env : Env} {x : PySem.Str} {pos : Pos} {v : Value} {c : Addr} {Q : Value → Shared → Prop} (I : In h₀ env.locals m N z s) (hc : env.cells.lookup x = some c) (hN : h₀.IsCell c (some v)) (h : Q v s)
    (hk : env.scope.kind = .function := by with_unfolding_all rfl) (hl : env.kindOf x = some .free := by with_unfolding_all rfl) (hn : (x == ("__classdict__" : PySem.Str)) = false := by decide) (hd : (x == ("__debug__" : PySem.Str)) = false := by decide) :
    wpAny (model prog w) A (eval (.Name x pos) env) Q E s := wpAny_Name (wpAny_loadName_free hk hl hc (hN.keeps I.fr.keep) h hn) hd
end
-- part A13
set_option maxRecDepth 100000 in
theorem map_owner : Manifest.owners.lookup (String.ofList ['p', 'a', 'm'].reverse) = some Manifest.sig_map := by kernel_rfl
set_option maxRecDepth 100000 in
theorem map_slot_init : Slot "map" "__init__" "object.__init__" :=
  .of (owner := "object") (n := "__init__") (by rw [typeLookup_type, builtinLookup_eq_fast]; kernel_rfl) (by decide +kernel) (by decide +kernel) (by decide +kernel)
    (by first | exact .inl (by decide +kernel) | exact .inr (by decide +kernel)) (by rw [isSubtype_type]; kernel_rfl)
set_option maxRecDepth 100000 in
theorem map_slot_iter : Slot "map" "__iter__" "map.__iter__" :=
  .of (owner := "map") (n := "__iter__") (by rw [typeLookup_type, builtinLookup_eq_fast]; kernel_rfl) (by decide +kernel) (by decide +kernel) (by decide +kernel)
    (by first | exact .inl (by decide +kernel) | exact .inr (by decide +kernel)) (by rw [isSubtype_type]; kernel_rfl)
set_option maxRecDepth 100000 in
theorem map_slot_next : Slot "map" "__next__" "map.__next__" :=
  .of (owner := "map") (n := "__next__") (by rw [typeLookup_type, builtinLookup_eq_fast]; kernel_rfl) (by decide +kernel) (by decide +kernel) (by decide +kernel)
    (by first | exact .inl (by decide +kernel) | exact .inr (by decide +kernel)) (by rw [isSubtype_type]; kernel_rfl)
set_option maxRecDepth 100000 in
theorem map_args_iter (a : Value) : argsOk "map.__iter__" ⟨[a], []⟩ := by
  unfold argsOk; rw [signature?_of (id := "map.__iter__") (n := ['_', '_', 'r', 'e', 't', 'i', '_', '_']) (o := ['p', 'a', 'm']) (by kernel_rfl) map_owner]; kernel_rfl
set_option maxRecDepth 100000 in
theorem map_args_next (a : Value) : argsOk "map.__next__" ⟨[a], []⟩ := by
  unfold argsOk; rw [signature?_of (id := "map.__next__") (n := ['_', '_', 't', 'x', 'e', 'n', '_', '_']) (o := ['p', 'a', 'm']) (by kernel_rfl) map_owner]; kernel_rfl
theorem map_entry_next : entryFor table "map.__next__" = some Builtin.«map.__next__» := entryFor_of_tree (by kernel_rfl)
theorem map_entry_new : entryFor table "map.__new__" = some Builtin.«map.__new__» := entryFor_of_tree (by kernel_rfl)
theorem map_entry_iter : entryFor table "map.__iter__" = some Builtin.«dict_keyiterator.__iter__» :=
  entryFor_alias (id' := "dict_keyiterator.__iter__") (by kernel_rfl) (by first | rfl | decide +kernel | (unfold String.splitOn; simp +decide [String.splitOnAux])) (by decide +kernel) (by kernel_rfl)
theorem map_mro : mroOf (.type "map") = pure [.type "map", .type "object"] := by rw [mroOf_type]; kernel_rfl
theorem map_lookup_new : typeLookup (.type "map") "__new__" = pure (some (.builtin "map.__new__")) := by rw [typeLookup_type, builtinLookup_eq_fast]; kernel_rfl
theorem map_called : TypeCalled "map" "map.__new__" "object.__init__" :=
  ⟨by decide +kernel, by decide +kernel, ⟨_, _, map_mro⟩, madeBy_type map_mro map_lookup_new (by decide +kernel), by decide +kernel, by rw [isSubtype_type]; kernel_rfl, map_slot_init⟩
theorem map_typeCall (a b : Value) : checkTypeCall "map" ⟨[a, b], []⟩ = pure () := by kernel_rfl
theorem map_newCall (a b : Value) : checkBuiltinCall "map.__new__" ⟨[.type "map", a, b], []⟩ = pure () := by kernel_rfl
theorem map_sub : isSubtype (.type "map") (.type "map") = pure true := by rw [isSubtype_type]; kernel_rfl

noncomputable abbrev iterObj (l : Addr) (i : Nat) : Obj := { cls := .type "list_iterator", data := .fields #[.ref l, .int i 0] }
noncomputable abbrev mapObj (T : Addr) (f : Value) : Obj := { cls := .type "map", data := .fields #[.ref T, f] }
noncomputable abbrev tup1 (it : Addr) : Obj := { cls := .type "tuple", data := .seq #[.ref it] }
noncomputable abbrev mapH1 (h : Heap) (l : Addr) : Heap := h.push (iterObj l 0)
noncomputable abbrev mapH2 (h : Heap) (l : Addr) : Heap := (mapH1 h l).push (tup1 h.objs.size)
noncomputable abbrev mapH3 (h : Heap) (l : Addr) (f : Value) : Heap := (mapH2 h l).push (mapObj (mapH1 h l).objs.size f)
theorem meets_map_new (f : Value) (l : Addr) (xs : Array Value) :
    Meets (Builtin.«map.__new__» ⟨[.type "map", f, .ref l], []⟩) (fun _ R s => s.heap.IsList l xs ∧
      R (.ok (.ret (.ref (mapH2 s.heap l).objs.size))) { s with heap := mapH3 s.heap l f }) :=
  .of_wp fun prog w A R s h => by
    obtain ⟨hp, g, d, tk, os⟩ := s; obtain ⟨hl1, h⟩ := h
    have hsub := map_sub
    have hL1 : Heap.IsList (Shared.heap ⟨hp, g, d, tk, os⟩) l xs := hl1
    wp_walk using wpAny_pyIter_list hL1
    exact ⟨_, rfl, h⟩
section
variable {prog : Program} {w : World} {A : Around} {E : Value → Shared → Prop} {s : Shared}
theorem call_map {f : Value} {l : Addr} {xs : Array Value} {Q : Value → Shared → Prop} (hl : s.heap.IsList l xs) (h : Q (.ref (mapH2 s.heap l).objs.size) { s with heap := mapH3 s.heap l f }) :
    wpAny (model prog w) A (call (.type "map") [f, .ref l]) Q E s := by
  refine callType_new map_called (by decide) (map_typeCall _ _) (map_newCall _ _) (fun obj => F.args_object_init_3 obj _ _) map_entry_new (meets_map_new f l xs) ⟨hl, ?_⟩
  exact ⟨⟨_, Heap.get?_push_size _ rfl, rfl⟩, h⟩
theorem pyIter_map {mp T : Addr} {f : Value} {Q : Value → Shared → Prop} (hm : s.heap.get? mp = some (mapObj T f)) (h : Q (.ref mp) s) : wpAny (model prog w) A (pyIter (.ref mp)) Q E s := by
  have hT : s.TypeIs (.ref mp) "map" := ⟨_, hm, rfl⟩
  refine wpAny_pyIter_slot hT map_slot_iter (wpAny_call_entry map_slot_iter hT map_entry_iter ?_ (map_args_iter _))
  show wpAny _ _ (ret (.ref mp)) _ _ s
  exact wpAny_pure ⟨_, rfl, "map", _, hT, map_slot_next.lookup, h⟩
theorem letOwned_map {elts : List Expr} {x1} {pos : Pos} {mp T : Addr} {f v : Value} {Q : Unit → Shared → Prop} (hm : s.heap.get? mp = some (mapObj T f)) (h : Q () s) :
    wpAny (model prog w) A (letOwnedTupleGo (.Tuple elts x1 pos) (.ref mp) v) Q E s := by
  unfold letOwnedTupleGo
  cases v with
  | ref a =>
    refine wpAny_bind (wpAny_load hm ?_)
    show wpAny _ _ (if (["enumerate", "zip", "dict_itemiterator", "dict_reverseitemiterator", "odict_iterator", "itertools.zip_longest", "itertools.pairwise"].contains "map" && _) = true then _ else _) Q E s
    rw [if_neg (by rw [show (["enumerate", "zip", "dict_itemiterator", "dict_reverseitemiterator", "odict_iterator", "itertools.zip_longest", "itertools.pairwise"].contains "map") = false from by decide +kernel]; simp)]
    exact wpAny_pure h
  | _ => exact wpAny_pure h
/-- the next of a map: the list's next, then the function -/
theorem pyNext_map {mp T it l : Addr} {f x : Value} {i : Nat} {xs : Array Value} {Q : Option Value → Shared → Prop} (hm : s.heap.get? mp = some (mapObj T f)) (hT : s.heap.get? T = some (tup1 it))
    (hit : s.heap.IsListIter it l i) (hl : s.heap.IsList l xs) (hx : xs[i]? = some x) (hmi : mp ≠ it)
    (h : ∀ h', h'.IsListIter it l (i + 1) → Heap.SameBut it s.heap h' → wpAny (model prog w) A.in1 (call f [x]) (fun v s' => Q (some v) s') (fun _ _ => False) { s with heap := h' }) :
    wpAny (model prog w) A (pyNext (.ref mp)) Q E s := by
  have hTy : s.TypeIs (.ref mp) "map" := ⟨_, hm, rfl⟩
  unfold pyNext
  refine wpAny_bind (wpAny_attempt (wpAny_callSpecial?_slot (name := Str.ofString "__next__") hTy map_slot_next (wpAny_call_entry map_slot_next hTy map_entry_next ?_ (map_args_next _))))
  show wpAny _ _ (field (.ref mp) 0 >>= _) _ _ s
  refine wpAny_bind (wpAny_field hm rfl (x := .ref T) rfl ?_)
  refine wpAny_bind (wpAny_seqItems hT rfl ?_)
  refine wpAny_bind ?_
  rw [← Array.forIn_toList]
  show wpAny _ _ (forIn [Value.ref it] (#[] : Array Value) _) _ _ s
  simp only [List.forIn_cons, List.forIn_nil]
  refine wpAny_bind (wpAny_bind ?_)
  refine wpAny_holding ?_
  refine wpAny_nextOf_list_item hit hl hx fun h' hit' hs' => ?_
  refine wpAny_pure (wpAny_pure ?_)
  have hm' : h'.get? mp = some (mapObj T f) := hs'.extBut _ _ hmi hm
  refine wpAny_bind (wpAny_field hm' rfl (x := f) rfl ?_)
  refine wpAny_bind (wpAny_holding ?_)
  refine wpAny_mono (h h' hit' hs') (fun v s' q => ?_) fun _ _ q => q.elim
  refine wpAny_bind (wpAny_letGo ?_)
  exact wpAny_pure ⟨v, rfl, wpAny_pure q⟩
theorem pyNext_map_end {mp T it l : Addr} {f : Value} {i : Nat} {xs : Array Value} {Q : Option Value → Shared → Prop} (hh : A.handled = none) (hm : s.heap.get? mp = some (mapObj T f)) (hT : s.heap.get? T = some (tup1 it))
    (hit : s.heap.IsListIter it l i) (hl : s.heap.IsList l xs) (hx : xs[i]? = none)
    (h : ∀ h', Heap.ExtBut it s.heap h' → Q none { s with heap := h' }) :
    wpAny (model prog w) A (pyNext (.ref mp)) Q E s := by
  have hTy : s.TypeIs (.ref mp) "map" := ⟨_, hm, rfl⟩
  unfold pyNext
  refine wpAny_bind (wpAny_attempt (wpAny_callSpecial?_slot (name := Str.ofString "__next__") hTy map_slot_next (wpAny_call_entry map_slot_next hTy map_entry_next ?_ (map_args_next _))))
  show wpAny _ _ (field (.ref mp) 0 >>= _) _ _ s
  refine wpAny_bind (wpAny_field hm rfl (x := .ref T) rfl ?_)
  refine wpAny_bind (wpAny_seqItems hT rfl ?_)
  refine wpAny_bind ?_
  rw [← Array.forIn_toList]
  show wpAny _ _ (forIn [Value.ref it] (#[] : Array Value) _) _ _ s
  simp only [List.forIn_cons, List.forIn_nil]
  refine wpAny_bind (wpAny_bind ?_)
  refine wpAny_holding ?_
  refine wpAny_nextOf_list_end (by simp [hh]) hit hl hx fun h' e hx he => ?_
  obtain ⟨o, ho, hc⟩ := he
  refine wpAny_bind (wpAny_isInstance (T := "StopIteration") (b := true) ⟨o, ho, hc⟩ isSubtype_stop ?_)
  exact wpAny_pure (h _ hx)
end
-- part A14
/-- the built-in names' module, as the text's names know it -/
structure BuiltM (mg : PySem.Str → Option Value) (h : Heap) : Prop where
  ex : ∃ bm ob, mg "__builtins__" = some (.ref bm) ∧ bm ≠ builtinsNs ∧ bm ≠ mainGlobals ∧ h.get? bm = some ob ∧ ob.cls = .type "module" ∧ ob.dict = some builtinsNs ∧ ob.data = .plain
theorem BuiltM.keeps {mg : PySem.Str → Option Value} {h h' : Heap} (B : BuiltM mg h) (k : ∀ b o, h.get? b = some o → h'.get? b = some o) : BuiltM mg h' := by
  obtain ⟨bm, ob, h1, h2, h3, h4, r⟩ := B.ex; exact ⟨bm, ob, h1, h2, h3, k _ _ h4, r⟩
theorem BuiltM.at {mg : PySem.Str → Option Value} {h : Heap} {P : Addr} {ps : Array Value} (B : BuiltM mg h) (hP : h.get? P = some (tabObj ps)) : h.BuiltinsAt mg P := by
  obtain ⟨bm, ob, h1, h2, h3, h4, h5, r⟩ := B.ex
  have h6 : bm ≠ P := fun q => by rw [q, hP] at h4; cases h4; cases h5
  exact ⟨bm, ob, h1, h2, h3, h6, h4, h5, r⟩
/-- of the object alone: it is the code object c with the table P, of that name -/
noncomputable def HdO (o : Obj) (c P : Addr) : Prop := ∀ h : Heap, h.get? c = some o → CodeHd h c P
noncomputable def RecO (o : Obj) (c : Addr) (q : PySem.Str) : Prop := ∀ h : Heap, h.get? c = some o → h.CodeRec (.ref c) q
theorem hdO_of {h : Heap} {c P : Addr} (x : CodeHd h c P) : ∃ o, h.get? c = some o ∧ HdO o c P := by
  obtain ⟨o, vs, file, tf, flags, tg, inF, text, tt, e, r⟩ := x
  exact ⟨o, e, fun h' e' => ⟨o, vs, file, tf, flags, tg, inF, text, tt, e', r⟩⟩
theorem codeRec_recO {h : Heap} {c : Addr} {q : PySem.Str} (x : h.CodeRec (.ref c) q) : ∃ o, h.get? c = some o ∧ RecO o c q := by
  obtain ⟨c', o, vs, t, e, g, r⟩ := x
  cases e
  exact ⟨o, g, fun h' e' => ⟨_, o, vs, t, rfl, e', r⟩⟩
section
variable {M : Model} {A : Around} {E : Value → Shared → Prop} {s : Shared} {name qual : PySem.Str} {params : Arguments} {body : Expr} {scope : Scope} {env : Env} {c P : Addr} {ps : Array Value} {pos : Pos} {firstLine : Nat} {mg : PySem.Str → Option Value} {clos : List (PySem.Str × Addr)} {Q : Value → Shared → Prop}
theorem lam_new (hcl : closureFor scope env = pure clos) (hne : clos ≠ []) (hge0 : env.globals = mainGlobals) (hg : s.heap.Ns mainGlobals mg) (hcode : env.code = .ref c) (C : CodeHd s.heap c P) (hP : s.heap.get? P = some (tabObj ps)) (ht : TriplesOk ps.toList)
    (hnf : codeAmong pos ps.toList = none) (hgP : mainGlobals ≠ P) (hb : s.heap.BuiltinsAt mg P)
    (h : ∀ c' P' ctv h' tk, Heap.ExtBut P s.heap h' → s.heap.objs.size ≤ c' → c' < h'.objs.size → s.heap.objs.size ≤ P' → P' < h'.objs.size → c' ≠ P' → h'.CodeRec (.ref c') qual → CodeHd h' c' P' → h'.get? P' = some (tabObj #[]) → h'.get? P = some (tabObj (ps ++ #[rawInt pos.line, rawInt pos.col, .ref c'])) →
      Q (.ref h'.objs.size) { s with heap := h'.push (kla_obj name qual params body scope clos ((mg "__name__").getD .none) c' ctv), toks := tk }) :
    wpAny M A (makeFunction name qual params (.expr body) scope env [] [] [] pos firstLine) Q E s := by
  rw [makeFunction_eq]
  simp only [List.zip_nil_right, List.filterMap_nil, List.isEmpty_nil, if_true, pure_bind]
  obtain ⟨bm, ob, hbm, hne0, _, hneP, hbo, hcls, hdict, hdata⟩ := hb
  unfold makeTail
  rw [hcl, hge0]
  refine wpAny_bind (wpAny_pure ?_)
  cases clos with
  | nil => exact absurd rfl hne
  | cons q r =>
    simp only [List.isEmpty_cons, Bool.false_eq_true, if_false]
    refine wpAny_bind (wpAny_newTextTuple ?_)
    refine wpAny_bind (wpAny_functionCodeX hcode ((C.keeps fun b o e => Heap.get?_push_of_some _ e).code (Heap.get?_push_of_some _ hP) ht) ((C.keeps fun b o e => Heap.get?_push_of_some _ e).tab (Heap.get?_push_of_some _ hP)) hnf fun c' h' tk hx hge hlt _ hrec htb hown => ?_)
    have hg' := (hg.push _).extBut hx hgP
    have hx' : Heap.ExtBut P s.heap h' := fun b o hb' e => hx b o hb' (Heap.get?_push_of_some _ e)
    have hge' : ∀ (o : Obj) x, (s.heap.push o).objs.size ≤ x → s.heap.objs.size ≤ x := fun o x hx => Nat.le_trans (by rw [Heap.size_push]; omega) hx
    obtain ⟨P', hgeP, hcd, htab⟩ := hown
    refine wpAny_bind (wpAny_builtinsFor hg' hbm hne0 (hx' _ _ hneP hbo) hcls hdict hdata ?_)
    refine wpAny_bind (wpAny_nsGet hg' ?_)
    have hC := CodeHd.of hcd htab
    exact wpAny_bind (wpAny_pure (wpAny_newObj_type (h c' P' _ h' tk hx' (hge' _ _ hge) hlt (hge' _ _ hgeP) (Heap.lt_size htab.2) (by obtain ⟨_, _, _, _, _, _, _, _, _, _, _, _, _, _, _, _, _, _, hn⟩ := hC; exact hn) hrec hC htab.2 htb.2) (by size_fits)))
end
section
variable {prog : Program} {w : World} {A : Around} {E : Value → Shared → Prop} {h₀ : Heap} {m : PySem.Str → Option Value} {N : Led} {z : Zx} {s : Shared} {env : Env} {mg : PySem.Str → Option Value}
theorem In.new {L : Addr} (I : In h₀ L m N z s) {a : Addr} (h : s.heap.objs.size ≤ a) : N a = none ∧ a ≠ L ∧ h₀.get? a = none ∧ z.prot a = none := by
  refine ⟨?_, ?_, ?_, ?_⟩
  · cases e : N a with
    | none => rfl
    | some o => exact absurd (Nat.lt_of_lt_of_le (Heap.lt_size (I.led a o e).1) h) (Nat.lt_irrefl _)
  · intro e; subst e; exact absurd (Nat.lt_of_lt_of_le I.fr.ns.lt h) (Nat.lt_irrefl _)
  · cases e : h₀.get? a with
    | none => rfl
    | some o => exact absurd (Nat.lt_of_lt_of_le (Heap.lt_size (I.fr.keep a o e)) h) (Nat.lt_irrefl _)
  · cases e : z.prot a with
    | none => rfl
    | some o => exact absurd (Nat.lt_of_lt_of_le (Heap.lt_size (I.prot a o e).1) h) (Nat.lt_irrefl _)
/-- one object of the ledger changes, much may come -/
theorem In.extBut {L : Addr} (I : In h₀ L m N z s) {P : Addr} {oP oP' : Obj} {h' : Heap} {tk : Nat} (hP : N P = some oP) (hx : Heap.ExtBut P s.heap h') (hP' : h'.get? P = some oP') : In h₀ L m (N.put P oP') z { s with heap := h', toks := tk } := by
  have D := I.led P oP hP
  have old : ∀ b o, h₀.get? b = some o → b ≠ P := fun b o e q => by rw [q, D.2.2] at e; cases e
  refine ⟨⟨I.fr.ns.extBut hx D.2.1.symm, fun b o e => hx b o (old b o e) (I.fr.keep b o e), I.fr.above⟩, fun a o e => ?_, fun a o e => ?_, I.gens, I.drawn, I.os⟩
  · by_cases ha : a = P
    · subst ha; rw [Led.put_same] at e; cases e; exact ⟨hP', D.2⟩
    · rw [Led.put_ne ha] at e; exact ⟨hx a o ha (I.led a o e).1, (I.led a o e).2⟩
  · have ha : a ≠ P := fun q => by have := (I.prot a o e).2.2.2; rw [q, hP] at this; cases this
    exact ⟨hx a o ha (I.prot a o e).1, (I.prot a o e).2.1, (I.prot a o e).2.2.1, Led.put_none (I.prot a o e).2.2.2 ha⟩
structure LamMade (N N' : Led) (P c' P' f : Addr) (ps : Array Value) (pos : Pos) (qual : PySem.Str) (fo : Obj) : Prop where
  fn : N' f = some fo
  cd : ∃ oc, N' c' = some oc ∧ HdO oc c' P' ∧ RecO oc c' qual
  own : N' P' = some (tabObj #[])
  tab : N' P = some (tabObj (ps ++ #[rawInt pos.line, rawInt pos.col, .ref c']))
  keep : ∀ a o, a ≠ P → N a = some o → N' a = some o
  nf : N f = none
  nc : N c' = none
  nP : N P' = none
  apart : f ≠ c' ∧ f ≠ P' ∧ c' ≠ P'
theorem r_lamNew {params : Arguments} {body : Expr} {scope : Scope} {pos : Pos} {c P : Addr} {ps : Array Value} {clos : List (PySem.Str × Addr)} {Q : Value → Shared → Prop} (I : In h₀ env.locals m N z s) (hg : h₀.Ns mainGlobals mg) (BM : BuiltM mg h₀)
    (hcl : closureFor scope env = pure clos) (hne : clos ≠ []) (hcode : env.code = .ref c) (C : CodeHd s.heap c P) (hP : N P = some (tabObj ps)) (ht : TriplesOk ps.toList) (hnf : codeAmong pos ps.toList = none)
    (h : ∀ f c' P' ctv N' s', LamMade N N' P c' P' f ps pos (env.qual ++ "<lambda>") (kla_obj "<lambda>" (env.qual ++ "<lambda>") params body scope clos ((mg "__name__").getD .none) c' ctv) → In h₀ env.locals m N' z s' → Q (.ref f) s')
    (hdef : defaultsOf params env = ([], []) := by with_unfolding_all rfl) (hge : env.globals = mainGlobals := by with_unfolding_all rfl) :
    wpAny (model prog w) A (eval (.Lambda params body scope pos) env) Q E s := by
  have D := I.led P _ hP
  have hgs := hg.keeps I.fr.keep
  have hgP : mainGlobals ≠ P := fun q => by
    obtain ⟨o, es, ep, e, hd, _⟩ := hgs
    rw [q, D.1] at e; cases e; cases hd
  refine kla_eval hdef (lam_new hcl hne hge hgs hcode C D.1 ht hnf hgP ((BM.keeps I.fr.keep).at D.1) fun c' P' ctv h' tk hx hge hlt hgeP hltP hne' hrec hC hP' htb => ?_)
  obtain ⟨oc, hoc, hd1⟩ := hdO_of hC
  obtain ⟨oc2, hoc2, hd2⟩ := codeRec_recO hrec
  rw [hoc] at hoc2; cases hoc2
  have I1 := I.extBut (tk := tk) hP hx htb
  have nc := I.new hge
  have nP := I.new hgeP
  have nf := I.new (a := h'.objs.size) (Nat.le_of_lt (Nat.lt_of_le_of_lt hge hlt))
  have cP : c' ≠ P := fun q => by rw [q, hP] at nc; cases nc.1
  have PP : P' ≠ P := fun q => by rw [q, hP] at nP; cases nP.1
  have I2 := I1.addLed hoc nc.2.1 nc.2.2.1 nc.2.2.2
  have I3 := I2.addLed hP' nP.2.1 nP.2.2.1 nP.2.2.2
  have I4 := I3.alloc (kla_obj "<lambda>" (env.qual ++ "<lambda>") params body scope clos ((mg "__name__").getD .none) c' ctv)
  refine h _ c' P' ctv _ _ ⟨Led.put_same, ⟨oc, ?_, hd1, hd2⟩, ?_, ?_, fun a o hne e => ?_, nf.1, nc.1, nP.1, Nat.ne_of_gt hlt, Nat.ne_of_gt hltP, hne'⟩ I4
  · rw [Led.put_ne (Nat.ne_of_lt hlt), Led.put_ne hne', Led.put_same]
  · rw [Led.put_ne (Nat.ne_of_lt hltP), Led.put_same]
  · have : P < h'.objs.size := Heap.lt_size htb
    rw [Led.put_ne (Nat.ne_of_lt this), Led.put_ne PP.symm, Led.put_ne cP.symm, Led.put_same]
  · have lt : a < s.heap.objs.size := Heap.lt_size (I.led a o e).1
    rw [Led.put_ne (Nat.ne_of_lt (Nat.lt_trans (Nat.lt_of_lt_of_le lt hge) hlt)), Led.put_ne (Nat.ne_of_lt (Nat.lt_of_lt_of_le lt hgeP)), Led.put_ne (Nat.ne_of_lt (Nat.lt_of_lt_of_le lt hge)), Led.put_ne hne]
    exact e
theorem r_lamHit {params : Arguments} {body : Expr} {scope : Scope} {pos : Pos} {c P c' : Addr} {ps : Array Value} {clos : List (PySem.Str × Addr)} {Q : Value → Shared → Prop} (I : In h₀ env.locals m N z s) (hg : h₀.Ns mainGlobals mg) (BM : BuiltM mg h₀)
    (hcl : closureFor scope env = pure clos) (hcode : env.code = .ref c) (C : CodeHd s.heap c P) (hP : N P = some (tabObj ps)) (ht : TriplesOk ps.toList) (hf : codeAmong pos ps.toList = some (.ref c'))
    (h : ∀ f ctv s', N f = none → In h₀ env.locals m (N.put f (kla_obj "<lambda>" (env.qual ++ "<lambda>") params body scope clos ((mg "__name__").getD .none) c' ctv)) z s' → Q (.ref f) s')
    (hdef : defaultsOf params env = ([], []) := by with_unfolding_all rfl) (hge : env.globals = mainGlobals := by with_unfolding_all rfl) :
    wpAny (model prog w) A (eval (.Lambda params body scope pos) env) Q E s := by
  have D := I.led P _ hP
  have hgs := hg.keeps I.fr.keep
  refine kla_eval hdef (kla_makeFunctionHit hcl hge hgs hcode C D.1 ht hf ((BM.keeps I.fr.keep).at D.1) fun ctv h' tk hk hsz => ?_)
  have I1 : In h₀ env.locals m N z { s with heap := h', toks := tk } := I.keeps ⟨h', tk, rfl, hk⟩
  exact h _ ctv _ (I.new hsz).1 (I1.alloc (kla_obj "<lambda>" (env.qual ++ "<lambda>") params body scope clos ((mg "__name__").getD .none) c' ctv))
end
/-- a call of a lambda with a cell of its own for its one parameter, over a base heap H -/
theorem call_lamC {prog : Program} {w : World} {A : Around} {s : Shared} {H : Heap} {N₀ : Led}
    {f : Addr} {arg : Value} {x name qual : PySem.Str} {params : Arguments} {body : Expr} {scope : Scope} {cl : List (PySem.Str × Addr)} {pm ctv : Value} {c' : Addr}
    (P : Value → Shared → Prop) (X : Value → Shared → Prop) (hH : ∀ b o, H.get? b = some o → s.heap.get? b = some o) (hsz : H.objs.size ≤ s.heap.objs.size) (hN : ∀ a o, N₀ a = some o → s.heap.get? a = some o ∧ H.get? a = none)
    (hlim : H.NoLimit) (hroom : A.depth < recursionLimit) (ho : s.heap.get? f = some (kla_obj name qual params body scope cl pm c' ctv)) (hcd : s.heap.CodeRec (.ref c') qual)
    (hbind : bindArgs (kla_fn name qual params body scope cl pm (.ref c') ctv) ⟨[arg], []⟩ = pure [(x, arg)])
    (hcells : ∀ n, cellsFrom n scope.names cl = (x, n) :: cl) (hpush : ∀ h, pushCells h scope.names = h.push { cls := .type "cell", data := .cell none }) (hx : scope.names.lookup x = some .cell)
    (hco : scope.isCoroutine = false) (hgen : scope.isGenerator = false) (hk : scope.kind = .function)
    (h : ∀ s₁ oc, N₀ (s.heap.objs.size + 1) = none → oc.data = .cell (some arg) → In H s.heap.objs.size (fun _ => none) (N₀.put (s.heap.objs.size + 1) oc) (Zx.of s) s₁ →
      wpAny (model prog w) (A.deeper (envX qual scope s.heap.objs.size f (.ref c') ((x, s.heap.objs.size + 1) :: cl))) (eval body (envX qual scope s.heap.objs.size f (.ref c') ((x, s.heap.objs.size + 1) :: cl)))
        (fun v s' => P v s' ∧ ∃ L m N, In H L m N (Zx.of s) s')
        (fun e s' => wpAny (model prog w) (A.deeper (envX qual scope s.heap.objs.size f (.ref c') ((x, s.heap.objs.size + 1) :: cl))) (leaving (envX qual scope s.heap.objs.size f (.ref c') ((x, s.heap.objs.size + 1) :: cl)) e) (fun _ s'' => X e s'') (fun _ _ => False) s') s₁) :
    wpAny (model prog w) A (call (.ref f) [arg]) (fun v s' => P v s' ∧ Gk H s s') X s := by
  refine wpAny_call (kla_callFunE hroom ho rfl hco hgen rfl hcd ?_)
  rw [hbind]
  refine wpAny_pure ?_
  have hnew : N₀ (s.heap.objs.size + 1) = none := by
    cases e : N₀ (s.heap.objs.size + 1) with
    | none => rfl
    | some o => exact absurd (Nat.lt_trans (Nat.lt_succ_self _) (Heap.lt_size (hN _ o e).1)) (Nat.lt_irrefl _)
  simp only [newFunctionEnv, Option.isSome_none, Bool.false_eq_true, if_false]
  refine wpAny_bind (wpAny_alloc ?_)
  refine wpAny_bind (wpAny_layCells _ (fun name kind cells => by cases hkc : kind == NameKind.cell <;> simp [hkc]) _ _ _ _ ?_)
  have esz : (s.heap.push { cls := .type "frame", data := .dict #[] }).objs.size = s.heap.objs.size + 1 := Heap.size_push ..
  show wpAny _ _ _ _ _ { s with heap := pushCells (s.heap.push { cls := .type "frame", data := .dict #[] }) scope.names }
  rw [hcells, hpush]
  rw [show ({ s with heap := s.heap.push { cls := .type "frame", data := .dict #[] } } : Shared).heap.objs.size = s.heap.objs.size + 1 from esz]
  have gL : ((s.heap.push { cls := .type "frame", data := .dict #[] }).push { cls := .type "cell", data := .cell none }).Ns s.heap.objs.size (fun _ => none) := (Heap.Ns.new s.heap (.type "frame")).keeps fun b o e => Heap.get?_push_of_some _ e
  have gc : ((s.heap.push { cls := .type "frame", data := .dict #[] }).push { cls := .type "cell", data := .cell none }).get? (s.heap.objs.size + 1) = some { cls := .type "cell", data := .cell none } := by rw [← esz]; exact Heap.get?_push_size _ rfl
  simp only [List.forIn_cons, List.forIn_nil]
  refine wpAny_bind (wpAny_bind (wpAny_bind ?_))
  refine wpAny_storeName_cell (c := s.heap.objs.size + 1) (v₀ := none) (by exact hk) (by show scope.names.lookup x = _; exact hx) (by show List.lookup x ((x, s.heap.objs.size + 1) :: cl) = _; simp) ⟨_, gc, rfl⟩ fun h' hv hs => ?_
  obtain ⟨oc, hoc, hdc⟩ := hv
  have hk₁ : ∀ b o, s.heap.get? b = some o → h'.get? b = some o := fun b o e => (hs.2 b (fun q => absurd (Nat.lt_trans (Nat.lt_succ_self _) (show s.heap.objs.size + 1 < s.heap.objs.size from q ▸ Heap.lt_size e)) (Nat.lt_irrefl _))).trans (Heap.get?_push_of_some _ (Heap.get?_push_of_some _ e))
  refine wpAny_pure (wpAny_pure (wpAny_pure ⟨(hlim.keeps hH).keeps hk₁, ?_⟩))
  have gn : H.get? (s.heap.objs.size + 1) = none := Heap.get?_none_of_le (by omega)
  refine kla_codeExpr (wpAny_mono (h { s with heap := h' } oc hnew hdc ⟨⟨gL.sameBut hs (Nat.ne_of_lt (Nat.lt_succ_self _)), fun b o e => hk₁ b o (hH b o e), hsz⟩, fun a o e => ?_, fun a o e => (by cases e), rfl, rfl, rfl⟩) (fun v s' y => ?_) fun e s' y => wpAny_mono y (fun _ _ y => y) fun _ _ y => y.elim)
  · by_cases ha : a = s.heap.objs.size + 1
    · subst ha; rw [Led.put_same] at e; cases e; exact ⟨hoc, Nat.ne_of_gt (Nat.lt_succ_self _), gn⟩
    · rw [Led.put_ne ha] at e
      exact ⟨hk₁ a o (hN a o e).1, Nat.ne_of_lt (Heap.lt_size (hN a o e).1), (hN a o e).2⟩
  · obtain ⟨hP, L, m', N', I⟩ := y
    exact ⟨hP, I.gk⟩
-- part A15
noncomputable abbrev TxtsAre := PyProof.Rows.StrsAre
theorem txts_len : ∀ {vs : List Value} {ys : List PySem.Str}, TxtsAre vs ys → vs.length = ys.length
  | _, _, .nil => rfl
  | _, _, .cons _ _ r => by rw [List.length_cons, List.length_cons, txts_len r]
theorem txts_snoc : ∀ {vs : List Value} {ys : List PySem.Str} {y : PySem.Str} {t : Tok}, TxtsAre vs ys → TxtsAre (vs ++ [.str y t]) (ys ++ [y])
  | _, _, y, t, .nil => .cons y t .nil
  | _, _, _, _, .cons x u r => .cons x u (txts_snoc r)
/-- all joined -/
noncomputable def catS : List PySem.Str → PySem.Str
  | [] => Str.ofString ""
  | y :: r => y ++ catS r
theorem nil_app (a : PySem.Str) : Str.ofString "" ++ a = a := by
  have e : (Str.ofString "").cps = #[] := by decide +kernel
  cases a
  show (⟨(Str.ofString "").cps ++ _⟩ : PySem.Str) = _
  rw [e, Array.empty_append]
theorem app_nil (a : PySem.Str) : a ++ Str.ofString "" = a := by
  have e : (Str.ofString "").cps = #[] := by decide +kernel
  cases a
  show (⟨_ ++ (Str.ofString "").cps⟩ : PySem.Str) = _
  rw [e, Array.append_empty]
theorem app_assoc (a b c : PySem.Str) : a ++ b ++ c = a ++ (b ++ c) := by
  show (⟨(a.cps ++ b.cps) ++ c.cps⟩ : PySem.Str) = ⟨a.cps ++ (b.cps ++ c.cps)⟩
  rw [Array.append_assoc]
theorem catS_snoc : ∀ (l : List PySem.Str) (y : PySem.Str), catS (l ++ [y]) = catS l ++ y
  | [], y => by rw [List.nil_append, catS, catS, catS, app_nil, nil_app]
  | x :: l, y => by rw [List.cons_append, catS, catS_snoc l y, catS, app_assoc]
theorem catS_len : ∀ l : List PySem.Str, (l.map (·.length)).sum = (catS l).length
  | [] => by
    have e : (Str.ofString "").length = 0 := by decide +kernel
    rw [catS, e]; rfl
  | x :: l => by rw [List.map_cons, List.sum_cons, catS_len l, catS, PySem.Str.length_append]
theorem join_cat (l : List PySem.Str) : Txt.join (Str.ofString "") l = catS l := by
  show Builtin.Str.glued _ l = _
  have e : (Str.ofString "").cps = #[] := by decide +kernel
  have k : ∀ (l : List PySem.Str) (acc : Array Nat), l.foldl (fun acc p => acc ++ (Str.ofString "").cps ++ p.cps) acc = acc ++ (catS l).cps := by
    intro l
    induction l with
    | nil => intro acc; rw [catS, e]; simp
    | cons x l ih => intro acc; rw [List.foldl_cons, ih, e, catS]; show _ = acc ++ (x.cps ++ (catS l).cps); simp
  unfold Builtin.Str.glued
  cases l with
  | nil => rw [catS]; show (⟨List.foldl _ (Str.empty).cps []⟩ : PySem.Str) = _; rfl
  | cons x l => rw [List.drop_one, List.tail_cons, List.headD_cons, k, catS]; rfl
section
variable {prog : Program} {w : World} {A : Around} {E : Value → Shared → Prop} {h₀ : Heap} {m : PySem.Str → Option Value} {N : Led} {z : Zx} {s : Shared} {L : Addr}
theorem r_truthyS {x : PySem.Str} {t : Tok} {Q : Bool → Shared → Prop} (I : In h₀ L m N z s) (hx : x.length ≤ 16777216) (h : ∀ s', In h₀ L m N z s' → Q (decide (x ≠ Str.ofString "")) s') : wpAny (model prog w) A (truthy (.str x t)) Q E s := by
  refine P.truthy_str (by omega) ?_
  have e : ((x.length : Int) != 0) = decide (x ≠ Str.ofString "") := by
    have e0 : (Str.ofString "").cps = #[] := by decide +kernel
    by_cases c : x = Str.ofString ""
    · subst c
      have e1 : (Str.ofString "").length = 0 := by decide +kernel
      rw [e1]; simp
    · have : x.length ≠ 0 := fun q => c (by
        have h1 : x.cps = #[] := Array.eq_empty_of_size_eq_zero q
        cases x; dsimp only at h1; subst h1
        show _ = (⟨(Str.ofString "").cps⟩ : PySem.Str)
        rw [e0])
      simp only [ne_eq, c, not_false_eq_true, decide_true]
      simp only [bne_iff_ne, ne_eq]
      omega
  rw [e]
  exact h _ (I.toks _)
theorem r_iaddI {a b : Int} {t u : Tok} {Q : Value → Shared → Prop} (I : In h₀ L m N z s) (h : ∀ t s', In h₀ L m N z s' → Q (.int (a + b) t) s') : wpAny (model prog w) A (inplaceOp .Add (.int a t) (.int b u)) Q E s := iadd_int (h _ _ (I.toks _))
theorem r_join {D : Addr} {vs : List Value} {k : Nat} {ys : List PySem.Str} {t : Tok} {Q : Value → Shared → Prop} (I : In h₀ L m N z s) (hD : N D = some (listOf vs.toArray k)) (hi : TxtsAre vs ys) (hz : (catS ys).length ≤ 16777216)
    (h : ∀ t s', In h₀ L m N z s' → Q (.str (catS ys) t) s') : wpAny (model prog w) A (call (.builtin "str.join") [.str (Str.ofString "") t, .ref D]) Q E s := by
  have e : (Str.ofString "").length = 0 := by decide +kernel
  refine join_list (items := vs.toArray) ⟨_, I.get hD, rfl, _, rfl⟩ (by simpa using hi) (by rw [catS_len, e]; simpa using hz) fun t' k => ?_
  rw [join_cat]
  exact h _ _ (I.toks _)
theorem In.unpacked (I : In h₀ L m N z s) {h' : Heap} (hx : Heap.ExtBut s.heap.objs.size s.heap h') : In h₀ L m N z { s with heap := h' } :=
  I.keeps ⟨h', s.toks, rfl, fun b o e => hx b o (Nat.ne_of_lt (Heap.lt_size e)) e⟩
theorem r_unpack2 {env : Env} {x1 x2 : PySem.Str} {p1 p2 tp : Pos} {k : Nat} {a : Addr} {v1 v2 : Value} {Q : Unit → Shared → Prop} (I : In h₀ env.locals m N z s) (hh : A.handled = none) (ha : s.heap.get? a = some (tupleOf [v1, v2].toArray))
    (h : ∀ s', In h₀ env.locals (upd (upd m x1 v1) x2 v2) N z s' → 0 < s'.toks → Q () s')
    (hk : env.scope.kind = .function := by with_unfolding_all rfl) (hl1 : env.kindOf x1 = some .local := by with_unfolding_all rfl) (hl2 : env.kindOf x2 = some .local := by with_unfolding_all rfl) :
    wpAny (model prog w) A (assign (.Tuple [.Name x1 p1, .Name x2 p2] k tp) env (.ref a)) Q E s := by
  refine wpAny_assign_Tuple hh ⟨_, ha, rfl, _, rfl⟩ rfl rfl fun h' hx => ?_
  show wpAny _ A (do holding [v2] (assign (.Name x1 p1) env v1); do holding [] (assign (.Name x2 p2) env v2); pure ()) _ _ _
  refine wpAny_bind (wpAny_holding (wpAny_assign_Name (r_storeT (I.unpacked hx) (fun s1 I1 _ => ?_) hk hl1)))
  refine wpAny_bind (wpAny_holding (wpAny_assign_Name (r_storeT I1 (fun s2 I2 p => wpAny_pure (h s2 I2 p)) hk hl2)))
theorem r_unpack4 {env : Env} {x1 x2 x3 x4 : PySem.Str} {p1 p2 p3 p4 tp : Pos} {k : Nat} {a : Addr} {v1 v2 v3 v4 : Value} {Q : Unit → Shared → Prop} (I : In h₀ env.locals m N z s) (hh : A.handled = none) (ha : s.heap.get? a = some (tupleOf [v1, v2, v3, v4].toArray))
    (h : ∀ s', In h₀ env.locals (upd (upd (upd (upd m x1 v1) x2 v2) x3 v3) x4 v4) N z s' → 0 < s'.toks → Q () s')
    (hk : env.scope.kind = .function := by with_unfolding_all rfl) (hl1 : env.kindOf x1 = some .local := by with_unfolding_all rfl) (hl2 : env.kindOf x2 = some .local := by with_unfolding_all rfl)
    (hl3 : env.kindOf x3 = some .local := by with_unfolding_all rfl) (hl4 : env.kindOf x4 = some .local := by with_unfolding_all rfl) :
    wpAny (model prog w) A (assign (.Tuple [.Name x1 p1, .Name x2 p2, .Name x3 p3, .Name x4 p4] k tp) env (.ref a)) Q E s := by
  refine wpAny_assign_Tuple hh ⟨_, ha, rfl, _, rfl⟩ rfl rfl fun h' hx => ?_
  show wpAny _ A (do holding [v2, v3, v4] (assign (.Name x1 p1) env v1); do holding [v3, v4] (assign (.Name x2 p2) env v2); do holding [v4] (assign (.Name x3 p3) env v3); do holding [] (assign (.Name x4 p4) env v4); pure ()) _ _ _
  refine wpAny_bind (wpAny_holding (wpAny_assign_Name (r_storeT (I.unpacked hx) (fun s1 I1 _ => ?_) hk hl1)))
  refine wpAny_bind (wpAny_holding (wpAny_assign_Name (r_storeT I1 (fun s2 I2 _ => ?_) hk hl2)))
  refine wpAny_bind (wpAny_holding (wpAny_assign_Name (r_storeT I2 (fun s3 I3 _ => ?_) hk hl3)))
  refine wpAny_bind (wpAny_holding (wpAny_assign_Name (r_storeT I3 (fun s4 I4 p => wpAny_pure (h s4 I4 p)) hk hl4)))
theorem r_cwh {env : Env} {pos : Pos} {f : Addr} {o : Obj} {fd : FuncData} {first : List Value} {e : Expr} {rest : List Expr} {Q : Value → Shared → Prop} (ho : h₀.get? f = some o) (hd : o.data = .func fd)
    (h : wpAny (model prog w) A (spliced (backTo pos (starEach (e :: rest) env))) (fun vs s₁ => KeptIn h₀ s₁ (wpAny (model prog w) A (call (.ref f) (first ++ vs)) Q E s₁)) E s)
    (h1 : starEach (e :: rest) env = (false, eval e env) :: starEach rest env) :
    wpAny (model prog w) A (callWith pos (.ref f) first (backTo pos (starEach (e :: rest) env)) []) Q E s := callWith_meth hd ho h h1
theorem r_setMethod {U : Addr} {K : Type} [DecidableEq K] {knd : KeyKind prog w K} {S : K → Bool} {n : Nat} {pl : Sem Bool} {Q : Value × List Value → Shared → Prop} (hS : s.heap.SetOf knd U S n) (h : Q (.builtin "set.add", [.ref U]) s) :
    wpAny (model prog w) A (getMethod (.ref U) "add" pl) Q E s := getMethod_set_add hS h
theorem r_setAdd {U : Addr} {ou : Obj} {S : PySem.Str → Bool} {n : Nat} {x : PySem.Str} {t : Tok} {Q : Value → Shared → Prop} (I : In h₀ L m N z s) (hU : N U = some ou) (hS : s.heap.SetOf (strKind prog w) U S n) (hroom : n + 1 < scanBound)
    (h : ∀ ou' s', In h₀ L m (N.put U ou') z s' → s'.heap.SetOf (strKind prog w) U (fun y => S y || decide (y = x)) (if S x then n else n + 1) → Q .none s') :
    wpAny (model prog w) A (call (.builtin "set.add") [.ref U, .str x t]) Q E s := by
  refine call_set_add (strKind_is _ _ _ _) rfl hS hroom fun h' hs hS' => ?_
  obtain ⟨o, es, ep, tt, h1, r⟩ := hS'
  exact h o _ (I.same hU hs h1) ⟨o, es, ep, tt, h1, r⟩
/-- a method of the object's own, called -/
theorem r_methodOwn {K : Frag} {mg mb : PySem.Str → Option Value} {x C dx : Addr} {es : List DictEntry} {n : Nat} {name : PySem.Str} {pl : Sem Bool} {f : Addr} {v g : Value} {Q : Value × List Value → Shared → Prop} (G : Glo K mg mb h₀) (I : In h₀ L m N z s)
    (hx : h₀.get? x = some (instObj C dx)) (hd : h₀.get? dx = some (dictOf es n)) (hg : plainGet K C name = true) (hh : hasDictIn K C = true) (hf : findIn K (.ref C) name = some (some (.ref f))) (ht : typeIn K (.ref f) = some (.type "function"))
    (hsp : specialIn K (.ref f) "__get__" = some (some g)) (htk : takesIn K (.ref f) = some false) (hl : getL name es = some (some v)) (hv : handedIn v = true)
    (h : ∀ s', In h₀ L m N z s' → Q (v, []) s') : wpAny (model prog w) A (getMethod (.ref x) name pl) Q E s := by
  have X := G.X.keeps I.fr.keep
  have IA : InstAt s.heap x (instObj C dx) C (some (dictOf es n)) := ⟨I.fr.keep _ _ hx, rfl, rfl, I.fr.keep _ _ hd⟩
  have hfo : findObj K C (some (dictOf es n)) name = some (.value v) := by
    obtain ⟨cd, hc, hd'⟩ := any_some hh
    have ho : PySem.W.ownOf cd (some (dictOf es n)) name = some (some v) := by unfold PySem.W.ownOf; rw [if_pos hd']; exact hl
    unfold findObj
    rw [hc, Option.bind_some, hf, Option.bind_some]
    simp only [hsp, htk, Option.bind_some, ho]
  have us : wpAny (model prog w) A (do return (← getAttr (.ref x) name, ([] : List Value))) Q E s :=
    wpAny_bind (get_value X IA (plainGet_of hg).1 hfo hv (wpAny_pure (h _ (I.toks _))))
  have hcan := PySem.F.canon_object_ga
  unfold getMethod specialOf
  refine wpAny_bind (wpAny_bind (IA.type.here ((looks_findIn X (plainGet_of hg).1).here ?_)))
  dsimp only
  rw [hcan, if_neg (by decide)]
  refine wpAny_bind (wpAny_bind (IA.type.here ((looks_findIn X (plainGet_of hg).2).here ?_)))
  refine wpAny_bind (wpAny_bind (IA.type.here ((looks_findIn X hf).here (wpAny_bind ((looks_typeIn X ht).here ?_)))))
  rw [if_neg (by decide +kernel)]
  refine wpAny_bind (wpAny_loadPart IA.at_ ?_)
  refine wpAny_bind (wpAny_bind (wpAny_loadPart IA.dict ?_))
  rw [nsLook_of (r := some v) (by rw [lookIn_dict]; exact hl)]
  refine wpAny_pure ?_
  exact us
end
-- part A16
section
variable {prog : Program} {w : World} {A : Around} {E : Value → Shared → Prop} {h₀ : Heap} {m : PySem.Str → Option Value} {N : Led} {z : Zx} {s : Shared} {L : Addr}
theorem In.updL {l : Addr} {vs : List Value} {n : Nat} {f : Array Value → Array Value} {us : List Value} (I : In h₀ L m N z s) (hl : N l = some (listOf vs.toArray n)) (hf : f vs.toArray = us.toArray) : ∃ k, In h₀ L m (N.put l (listOf us.toArray k)) z { s with heap := s.heap.update l (Obj.mapSeq f), toks := s.toks } := by
  have q := PySem.IsL.update (I.get hl) f
  rw [hf] at q
  exact ⟨_, I.same hl (Heap.SameBut.update ..) q⟩
theorem r_pop {D : Addr} {vs : List Value} {n : Nat} {x : Value} {Q : Value → Shared → Prop} (I : In h₀ L m N z s) (hD : N D = some (listOf (vs ++ [x]).toArray n)) (h : ∀ s' k, In h₀ L m (N.put D (listOf vs.toArray k)) z s' → Q x s') (hz : vs.length + 1 ≤ 16777216) :
    wpAny (model prog w) A (call (.builtin "list.pop") [.ref D]) Q E s := by
  have hz' : (vs ++ [x]).toArray.size ≤ sizeLine := by rw [List.size_toArray, List.length_append]; exact hz
  have hk : (vs ++ [x]).toArray.size - 1 = vs.length := by rw [List.size_toArray, List.length_append]; rfl
  have hy : (vs ++ [x]).toArray[(vs ++ [x]).toArray.size - 1]? = some x := by rw [hk]; simp
  obtain ⟨k, I'⟩ := I.updL (f := fun xs => xs.eraseIdxIfInBounds ((vs ++ [x]).toArray.size - 1)) hD (us := vs) (by
    show (vs ++ [x]).toArray.eraseIdxIfInBounds ((vs ++ [x]).toArray.size - 1) = vs.toArray
    rw [hk, kl_erase, List.append_nil])
  exact call_meets PySem.F.slot_list_pop ⟨_, I.get hD, rfl⟩ PySem.F.entry_list_pop (PySem.F.args_list_pop_1 _) (PySem.MeetsSeq.list_pop_last D _ n x hy hz') ⟨I.get hD, h _ _ I'⟩
theorem r_clear {D : Addr} {vs : List Value} {n : Nat} {Q : Value → Shared → Prop} (I : In h₀ L m N z s) (hD : N D = some (listOf vs.toArray n)) (h : ∀ s' k, In h₀ L m (N.put D (listOf [].toArray k)) z s' → Q .none s') (hz : vs.length ≤ 16777216) :
    wpAny (model prog w) A (call (.builtin "list.clear") [.ref D]) Q E s := by
  obtain ⟨k, I'⟩ := I.updL (f := fun _ => #[]) hD (us := []) rfl
  exact call_meets PySem.F.slot_list_clear ⟨_, I.get hD, rfl⟩ PySem.F.entry_list_clear (PySem.F.args_list_clear_1 _) (AutoSeq1.list_clear_list_0 D vs.toArray n (by rw [List.size_toArray]; exact hz)) ⟨I.get hD, h _ _ I'⟩
theorem list_fill_add : fillsNumberSlot (.type "list") "add" = pure false := PyProof.Rows.fillsNumberSlot_seq (T := "list") (nm := "add") (id := "list.__add__") (r := none) (by rw [typeLookup_type, builtinLookup_eq_fast]; kernel_rfl) (by decide +kernel) (by rw [typeLookup_type, builtinLookup_eq_fast]; kernel_rfl) rfl
theorem list_iadd_lookup : typeLookup (.type "list") (dunderI "add") = pure (some (.builtin "list.__iadd__")) := by rw [typeLookup_type, builtinLookup_eq_fast]; kernel_rfl
theorem r_iaddL {D b : Addr} {vs us : List Value} {n k0 : Nat} {Q : Value → Shared → Prop} (I : In h₀ L m N z s) (hD : N D = some (listOf vs.toArray n)) (hb : N b = some (listOf us.toArray k0)) (h : ∀ s' k, In h₀ L m (N.put D (listOf (vs ++ us).toArray k)) z s' → Q (.ref D) s') (hz : vs.length + us.length ≤ 16777216) :
    wpAny (model prog w) A (inplaceOp .Add (.ref D) (.ref b)) Q E s := by
  have ha : s.TypeIs (.ref D) "list" := ⟨_, I.get hD, rfl⟩
  have hbT : s.TypeIs (.ref b) "list" := ⟨_, I.get hb, rfl⟩
  have hfi : fillsInplaceSlot (.type "list") "add" (Operator.Add == .Add) = pure false := by
    unfold fillsInplaceSlot
    show (typeLookup (.type "list") (dunderI "add") >>= fun fi => pure (fi.isSome && !isSeqSlot fi)) = pure false
    rw [list_iadd_lookup]
    kernel_rfl
  unfold inplaceOp
  refine wpAny_holding ?_
  refine wpAny_bind (wpAny_typeOf ha (wpAny_bind (wpAny_of_eq hfi ?_)))
  show wpAny _ A (if false = true then _ else _) Q E s
  rw [if_neg Bool.false_ne_true]
  refine wpAny_bind (PyProof.Rows.binaryOp1_none (nm := "add") ha hbT list_fill_add ?_)
  refine wpAny_bind (wpAny_of_eq (PyProof.Rows.seqSlot_of list_iadd_lookup (by decide +kernel)) ?_)
  refine wpAny_bind (wpAny_rule ?_)
  obtain ⟨k, I'⟩ := I.updL (f := fun x => x ++ us.toArray) hD (us := vs ++ us) (by simp)
  have hsz : vs.toArray.size + us.toArray.size ≤ sizeLine := by rw [List.size_toArray, List.size_toArray]; exact hz
  exact call_meets PySem.F.slot_list_iadd ha PySem.F.entry_list_iadd (PySem.F.args_list_iadd_2 _ _) (AutoSeq1.list___iadd___list_list_0 D vs.toArray n b us.toArray k0 (PyProof.Rows.extend_door hsz) (Nat.le_trans (Nat.le_add_right _ _) hsz) (Nat.le_succ_of_le hsz)) ⟨I.get hD, I.get hb, h _ _ I'⟩
theorem setItem_neg {l : Addr} {items : Array Value} {k : Int} {t : Tok} {v : Value} {Q : Unit → Shared → Prop} (hl : s.heap.IsList l items)
    (h0 : k < 0) (h1 : -(items.size : Int) ≤ k) (hfit : -(2 ^ 63) ≤ k) (hQ : Q () { s with heap := s.heap.update l (Obj.mapSeq (·.setIfInBounds (k + items.size).toNat v)) }) :
    wpAny (model prog w) A (setItem (.ref l) (.int k t) v) Q E s := by
  obtain ⟨o, ho, hc, ne, hd⟩ := id hl
  have hidx := seqIndex_neg h0 h1
  have hj : (k + items.size).toNat < items.size := by omega
  have hx : items[(k + items.size).toNat]? = some items[(k + items.size).toNat] := Array.getElem?_eq_getElem hj
  unfold setItem
  try with_reducible refine wpAny_holding ?_
  first | refine wpAny_bind (wpAny_pure ?_) | skip
  refine wpAny_bind (wpAny_sequenceKey hl.typeIs (by decide) ?_)
  refine wpAny_bind (wpAny_callSpecial?_slot (name := Str.ofString "__setitem__") hl.typeIs slot_list_setitem
    (wpAny_call_entry slot_list_setitem hl.typeIs entry_list_setitem ?_ (args_list_setitem _ _ _)))
  show wpAny _ _ (Builtin.List.listSubscript? (.int k t) >>= _) _ _ s
  refine wpAny_bind (wpAny_listSubscript_int (fitsIndex_neg h0 hfit) ?_)
  clear hfit
  generalize (k + items.size).toNat = q at hidx hj hx hQ ⊢
  obtain ⟨j, rfl⟩ : ∃ j : Nat, k = Int.negSucc j := by
    cases k with
    | ofNat n => exact absurd h0 (Int.not_lt.mpr (Int.ofNat_nonneg n))
    | negSucc n => exact ⟨n, rfl⟩
  show wpAny _ _ ((Builtin.List.listItems (.ref l) >>= fun xs => pure ((seqIndex? (Int.negSucc j) xs.size).bind fun i => xs[i]?.map (i, ·))) >>= _) _ _ s
  refine wpAny_bind (wpAny_bind ?_)
  show wpAny _ _ (seqItems? (.ref l) >>= _) _ _ s
  refine wpAny_bind (wpAny_seqItems ho hd (wpAny_pure (wpAny_pure ?_)))
  rw [hidx]
  simp only [Option.bind_some, hx, Option.map_some]
  refine wpAny_bind (wpAny_setSeqItemAt ho hd ?_)
  first
    | exact wpAny_bind (wpAny_pure (wpAny_pure ⟨.none, rfl, wpAny_pure hQ⟩))
    | exact wpAny_pure ⟨.none, rfl, wpAny_pure hQ⟩
theorem r_setNeg {D : Addr} {vs : List Value} {n : Nat} {x v : Value} {t : Tok} {Q : Unit → Shared → Prop} (I : In h₀ L m N z s) (hD : N D = some (listOf (vs ++ [x]).toArray n)) (h : ∀ s' k, In h₀ L m (N.put D (listOf (vs ++ [v]).toArray k)) z s' → Q () s') :
    wpAny (model prog w) A (setItem (.ref D) (.int (-1) t) v) Q E s := by
  have hsz : ((vs ++ [x]).toArray.size : Int) = vs.length + 1 := by simp
  have hk : (-1 + ((vs ++ [x]).toArray.size : Int)).toNat = vs.length := by rw [hsz]; omega
  obtain ⟨k, I'⟩ := I.updL (f := fun xs => xs.setIfInBounds vs.length v) hD (us := vs ++ [v]) (by simp)
  refine setItem_neg (items := (vs ++ [x]).toArray) ⟨_, I.get hD, rfl, _, rfl⟩ (by decide) (by rw [hsz]; omega) (by decide) ?_
  rw [hk]
  exact h _ _ I'
end
-- part A17
/-- a call of a def with cells of its own over a base heap H -/
theorem call_fnCG {prog : Program} {w : World} {A : Around} {s : Shared} {K : Frag} {mg mb : PySem.Str → Option Value} {H : Heap} {N₀ : Led}
    {f : Addr} {vals : List Value} {name qual : PySem.Str} {params : Arguments} {body : List Stmt} {scope : Scope} {dV kV doc pm cdv ct oc : Value} {an od : Option Addr} {osl : Array (Option Value)}
    (binds : List (PySem.Str × Value)) (P : Value → Shared → Prop) (X : Value → Shared → Prop) (hH : ∀ b o, H.get? b = some o → s.heap.get? b = some o) (hsz : H.objs.size ≤ s.heap.objs.size) (hN : ∀ a o, N₀ a = some o → s.heap.get? a = some o ∧ H.get? a = none)
    (G : Glo K mg mb H) (hroom : A.depth < recursionLimit)
    (ho : K.lookup f = some ⟨oc, od, .func (fnX name qual params body scope [] dV kV doc pm an cdv ct), osl⟩) (hcd : codeIn K cdv qual = true)
    (hbind : bindArgs (fnX name qual params body scope [] dV kV doc pm an cdv ct) ⟨vals, []⟩ = pure binds)
    (hkind : (binds.all fun y => scope.names.lookup y.1 == some .local || scope.names.lookup y.1 == some .cell) = true)
    (hco : scope.isCoroutine = false) (hgen : scope.isGenerator = false) (hk : scope.kind = .function)
    (h : ∀ s₁ N, Led.Le N₀ N → In H s.heap.objs.size (bindL (envX qual scope s.heap.objs.size f cdv (cellsFrom (s.heap.objs.size + 1) scope.names [])).kindOf binds fun _ => none) N (Zx.of s) s₁ →
      (∀ n c, (cellsFrom (s.heap.objs.size + 1) scope.names []).lookup n = some c → N₀ c = none ∧ ∃ o, N c = some o ∧ o.data = .cell (bindC (envX qual scope s.heap.objs.size f cdv (cellsFrom (s.heap.objs.size + 1) scope.names [])).kindOf binds (fun _ => none) n)) →
      wpAny (model prog w) (A.deeper (envX qual scope s.heap.objs.size f cdv (cellsFrom (s.heap.objs.size + 1) scope.names []))) (execs body (envX qual scope s.heap.objs.size f cdv (cellsFrom (s.heap.objs.size + 1) scope.names [])))
        (fun fl s' => P (match fl with | .ret v => v | _ => .none) s' ∧ ∃ L m N, In H L m N (Zx.of s) s')
        (fun e s' => wpAny (model prog w) (A.deeper (envX qual scope s.heap.objs.size f cdv (cellsFrom (s.heap.objs.size + 1) scope.names []))) (leaving (envX qual scope s.heap.objs.size f cdv (cellsFrom (s.heap.objs.size + 1) scope.names [])) e) (fun _ s'' => X e s'') (fun _ _ => False) s') s₁) :
    wpAny (model prog w) A (call (.ref f) vals) (fun v s' => P v s' ∧ Gk H s s') X s := by
  have G' := G.keeps hH
  refine wpAny_call (codeAny_call_cells (binds := binds) hroom (G'.X _ _ ho) rfl G'.nolimit (codeRec_of G'.X hcd) rfl hbind rfl (kindsX hkind _) (fun s₁ x => ?_) hco hgen hk)
  have x0 := x.toInCall
  obtain ⟨h', tk, rfl, hkeep⟩ := x0.done
  have hlt : ∀ c n, (n, c) ∈ (cellsFrom (s.heap.objs.size + 1) scope.names []) → s.heap.objs.size < c := fun c n hm => x.above n c hm
  have old : ∀ a o, N₀ a = some o → (cellsFrom (s.heap.objs.size + 1) scope.names []).any (fun p => p.2 == a) = false := fun a o e => by
    cases q : (cellsFrom (s.heap.objs.size + 1) scope.names []).any (fun p => p.2 == a) with
    | false => rfl
    | true =>
      obtain ⟨⟨n, c⟩, hm, hq⟩ := List.any_eq_true.mp q
      have hq : c = a := by simpa using hq
      subst hq
      exact absurd (Nat.lt_trans (hlt _ _ hm) (Heap.lt_size (hN _ _ e).1)) (Nat.lt_irrefl _)
  refine wpAny_mono (h { s with heap := h', toks := tk } (fun a => if (cellsFrom (s.heap.objs.size + 1) scope.names []).any (fun p => p.2 == a) then h'.get? a else N₀ a)
    (fun a o e => by show (if _ then _ else _) = _; rw [old a o e]; exact e)
    ⟨⟨x0.ns, fun b o e => hkeep b o (hH b o e), hsz⟩, fun a o e => ?_, fun a o e => (by cases e), rfl, rfl, rfl⟩ (fun n c e => ?_)) (fun fl s' x => ?_) fun e s' x => wpAny_mono x (fun _ _ y => y) fun _ _ y => y.elim
  · split at e
    · rename_i q
      obtain ⟨⟨n, c⟩, hm, hq⟩ := List.any_eq_true.mp q
      have hq : c = a := by simpa using hq
      subst hq
      have := hlt c n hm
      refine ⟨e, Nat.ne_of_gt this, ?_⟩
      cases q' : H.get? c with
      | none => rfl
      | some o' => exact absurd (Heap.lt_size (hH _ _ q')) (Nat.not_lt.mpr (Nat.le_of_lt this))
    · exact ⟨hkeep _ _ (hN _ _ e).1, Nat.ne_of_lt (Heap.lt_size (hN _ _ e).1), (hN _ _ e).2⟩
  · obtain ⟨o, ho1, ho2⟩ := x.cell n c e
    refine ⟨?_, o, ?_, ho2⟩
    · cases q : N₀ c with
      | none => rfl
      | some o' => exact absurd (Nat.lt_trans (hlt _ _ (mem_of_lookup e)) (Heap.lt_size (hN _ _ q).1)) (Nat.lt_irrefl _)
    · rw [if_pos (List.any_eq_true.mpr ⟨(n, c), mem_of_lookup e, by simp⟩)]
      exact ho1
  · obtain ⟨hP, L, m', N', I⟩ := x
    exact ⟨hP, I.gk⟩
section
variable {prog : Program} {w : World} {A : Around} {E : Value → Shared → Prop} {h₀ : Heap} {m : PySem.Str → Option Value} {N : Led} {z : Zx} {s : Shared} {L : Addr}
theorem r_storeC {env : Env} {x : PySem.Str} {v : Value} {c : Addr} {o : Obj} {v₀ : Option Value} {Q : Unit → Shared → Prop} (I : In h₀ env.locals m N z s) (hc : env.cells.lookup x = some c) (hN : N c = some o) (hd : o.data = .cell v₀)
    (h : ∀ s' o', o'.data = .cell (some v) → In h₀ env.locals m (N.put c o') z s' → Q () s')
    (hk : env.scope.kind = .function := by with_unfolding_all rfl) (hl : env.kindOf x = some .cell := by with_unfolding_all rfl) :
    wpAny (model prog w) A (storeName env x v) Q E s :=
  wpAny_storeName_cell hk hl hc ⟨o, I.get hN, hd⟩ fun h' ⟨o', hv, hd'⟩ hs => h _ o' hd' (I.same (tk := s.toks) hN hs hv)
noncomputable abbrev dictNew : Obj := { cls := .type "dict", data := .dict #[] }
theorem r_dict {env : Env} {keys : List (Option PySem.Expr)} {values : List PySem.Expr} {pos : Pos} {Q : Value → Shared → Prop} (I : In h₀ env.locals m N z s)
    (h : ∀ d s', N d = none → In h₀ env.locals m (N.put d dictNew) z s' → wpAny (model prog w) A (evalPairs (pairTrees keys values env pos)) (fun vs s₁ => ∃ kvs N', Carries (strKind prog w) vs kvs ∧ N' d = some dictNew ∧ In h₀ env.locals m N' z s₁ ∧
      ∀ s₂ od, In h₀ env.locals m (N'.put d od) z s₂ → s₂.heap.DictOf (strKind prog w) d (merged [] kvs) → Q (.ref d) s₂) E s')
    (hall : keys.all (·.isSome) = true := by with_unfolding_all rfl) (hl : keys.length = values.length := by with_unfolding_all rfl) (h0 : keys ≠ [] := by intro q; cases q) (hlen : keys.length ≤ 15 := by with_unfolding_all decide) :
    wpAny (model prog w) A (eval (.Dict keys values pos) env) Q E s := by
  refine wpAny_Dict_walk (knd := strKind prog w) hall hl h0 hlen (wpAny_mono (h _ _ I.fresh (I.alloc _)) (fun vs s₁ x => ?_) fun _ _ e => e)
  obtain ⟨kvs, N', hc, hN, I', hq⟩ := x
  refine ⟨kvs, hc, ⟨_, #[], 0, I'.get hN, ⟨rfl, rfl, rfl⟩, rfl, fun _ he => by simp at he, Pairs.nil, List.nodup_nil⟩, fun h' hd hs => ?_⟩
  obtain ⟨o, es, ep, g1, r⟩ := hd
  exact hq _ o (I'.same hN hs g1) ⟨o, es, ep, g1, r⟩
theorem r_setD {D : Addr} {od : Obj} {kvs : List (PySem.Str × Value)} {x : PySem.Str} {t : Tok} {v : Value} {Q : Unit → Shared → Prop} (I : In h₀ L m N z s) (hN : N D = some od) (hD : s.heap.DictOf (strKind prog w) D kvs) (hsz : kvs.length ≤ 10000)
    (h : ∀ s' od', In h₀ L m (N.put D od') z s' → s'.heap.DictOf (strKind prog w) D (stored kvs x v) → Q () s') : wpAny (model prog w) A (setItem (.ref D) (.str x t) v) Q E s := by
  refine wpAny_setItem_pairs (strKind_is _ _ _ _) hD (fun h' hd hs => ?_) (by show _ ≤ 16777216; omega)
  obtain ⟨o, es, ep, g1, r⟩ := hd
  exact h _ o (I.same hN hs g1) ⟨o, es, ep, g1, r⟩
theorem r_range {n : Nat} {t : Tok} {Q : Value → Shared → Prop} (I : In h₀ L m N z s) (h : ∀ r u v s', In h₀ L m N z s' → IsRange s'.heap r 0 n 1 u t v → Q (.ref r) s') :
    wpAny (model prog w) A (call (.type "range") [.int (n : Int) t]) Q E s := by
  refine call_range_1 ?_
  refine h _ s.toks (s.toks + 1) _ (I.keeps ⟨_, _, rfl, fun _ _ e => Heap.get?_push_of_some _ e⟩) (IsRange.new ..)
theorem r_iterRN {env : Env} {x : PySem.Str} {px : Pos} {body : List Stmt} {Q : Flow → Shared → Prop} {r : Addr} {n : Nat} {t u v : Tok} (Inv : Nat → (PySem.Str → Option Value) → Led → Prop) (hh : A.handled = none) (hI : In h₀ env.locals m N z s) (hr : IsRange s.heap r 0 n 1 t u v) (hn : n ≤ 1000000) (h0 : Inv 0 m N)
    (turn : ∀ i t m N z' s, i < n → Inv i m N → Zle z z' → In h₀ env.locals m N z' s → wpAny (model prog w) A (storeName env x (.int (i : Int) t)) (fun _ s₁ => wpAny (model prog w) A (execs body env) (fun f s' => match f with
      | .ret v => Q (.ret v) s'
      | .brk => Q .next s'
      | _ => ∃ m' N', Inv (i + 1) m' N' ∧ In h₀ env.locals m' N' z' s') (fun _ _ => False) s₁) (fun _ _ => False) s)
    (done : ∀ m N s, Inv n m N → In h₀ env.locals m N z s → Q .next s) :
    wpAny (model prog w) A (pyIter (.ref r)) (fun it s₂ => codeAny (model prog w) A (.forLoop (.Name x px) it body [] env) (fun r s' => match r with | .ok f => Q f s' | .error e => cameBackBy (model prog w) A env E e s') s₂) E s := by
  have hs2 : Builtin.Range.rangeSize 0 (n : Int) 1 = (n : Int) := by rw [rangeSize_one]; split <;> omega
  refine wpAny_pyIter_range hr (small_one (by decide) (by decide) (by omega) (by omega)) ?_
  have hfr := hI.fresh
  have hfa := hI.freshAll
  have hin : In h₀ env.locals m N z { s with heap := s.heap.push { cls := .type "range_iterator", data := .fields #[rawInt 0, rawInt (Builtin.Range.rangeSize 0 n 1), rawInt 1] } } := hI.keeps ⟨_, _, rfl, fun _ _ e => Heap.get?_push_of_some _ e⟩
  refine loop_walkN Inv (Walks.range hh s.heap.objs.size 0 1 n) hin hfa.1 hfa.2.1 hfa.2.2 hfr ?_ h0 (fun i h hst => ⟨_, hst⟩) (fun b hb hne => absurd (List.mem_singleton.mp hb) hne) ?_ ?_
  · have e1 : (0 + ((0 : Nat) : Int) * 1) = 0 := by simp
    have e2 : ((n : Int) - ((0 : Nat) : Int)) = Builtin.Range.rangeSize 0 n 1 := by rw [hs2]; simp
    rw [e1, e2]
    exact Heap.get?_push_size _ rfl
  · intro i v m' N' z' s₂ hi hP hv hzl I₂
    obtain ⟨t, rfl⟩ := hP
    have e : (0 + (i : Int) * 1) = (i : Int) := by omega
    rw [e]
    exact turn i t m' N' z' s₂ hi hv hzl I₂
  · exact done
theorem allNews_apart {h : Heap} : (allNews h₀ L h).Pairwise fun p q => p.1 ≠ q.1 := by
  unfold allNews
  rw [List.pairwise_filterMap]
  refine (List.pairwise_lt_range (n := h.objs.size)).imp fun {a b} hab p hp q hq => ?_
  have hp' : p.1 = a := by
    split at hp
    · cases hp
    · obtain ⟨o, _, rfl⟩ := Option.map_eq_some_iff.mp hp; rfl
  have hq' : q.1 = b := by
    split at hq
    · cases hq
    · obtain ⟨o, _, rfl⟩ := Option.map_eq_some_iff.mp hq; rfl
  rw [hp', hq']
  exact Nat.ne_of_lt hab
theorem upd_all {l : List (Addr × Obj)} {d : Addr} {o o' : Obj} (ha : l.Pairwise fun p q => p.1 ≠ q.1) (hm : (d, o) ∈ l) : ∃ l', Upd d o o' l l' ∧ (d, o') ∈ l' ∧ ∀ p ∈ l, p.1 ≠ d → p ∈ l' := by
  induction l with
  | nil => cases hm
  | cons p r ih =>
    rw [List.pairwise_cons] at ha
    rcases List.mem_cons.mp hm with rfl | hm'
    · exact ⟨_, .head fun q hq => (ha.1 q hq).symm, .head _, fun q hq hne => (List.mem_cons.mp hq).elim (fun e => absurd (by rw [e]) hne) fun hq => .tail _ hq⟩
    · obtain ⟨l', h1, h2, h3⟩ := ih ha.2 hm'
      exact ⟨p :: l', .tail (ha.1 _ hm') h1, .tail _ h2, fun q hq hne => (List.mem_cons.mp hq).elim (fun e => e ▸ .head _) fun hq => .tail _ (h3 q hq hne)⟩
theorem r_setAttr {K : Frag} {mg mb : PySem.Str → Option Value} {x C dx : Addr} {es : List DictEntry} {n : Nat} {name : PySem.Str} {v : Value} {Q : Unit → Shared → Prop} (G : Glo K mg mb h₀) (I : In h₀ L m N z s)
    (hx : N x = some (instObj C dx)) (hd : N dx = some (dictOf es n)) (hs : findIn K (.ref C) "__setattr__" = some (some (.builtin "object.__setattr__"))) (hp : plainOver K C = true) (ht : takerIn K C name = some none) (hh : hasDictIn K C = true) (hl : (getL name es).isSome = true)
    (hz : es.length ≤ 100) (h : ∀ s' tk, In h₀ L m (N.put dx (dictOf (putL name (PyData.keyHash w.params name) (.str name tk) v es) (putN name es n))) z s' → Q () s') :
    wpAny (model prog w) A (setAttr (.ref x) name v) Q E s := by
  obtain ⟨l', U, h1, h2⟩ := upd_all (o' := dictOf (putL name (PyData.keyHash w.params name) (.str name (s.toks + 1)) v es) (putN name es n)) (allNews_apart (h₀ := h₀) (L := L) (h := s.heap)) (mem_allNews.mpr (I.led dx _ hd))
  have hlen : ∀ es : List DictEntry, (putL name (PyData.keyHash w.params name) (.str name (s.toks + 1)) v es).length ≤ es.length + 1 := by
    intro es
    induction es with
    | nil => simp [putL]
    | cons e r ih => unfold putL; split <;> simp <;> omega
  refine set_dict I.fr G.X I.news ⟨I.get hx, rfl, rfl, I.get hd⟩ rfl hs hp ht hh hl rfl U (by have := hlen es; omega) fun h' F' N' => ?_
  refine h _ (s.toks + 1) ⟨F', fun a o e => ?_, fun a o e => ?_, I.gens, I.drawn, I.os⟩
  · by_cases ha : a = dx
    · subst ha; rw [Led.put_same] at e; cases e; exact N' _ h1
    · rw [Led.put_ne ha] at e
      exact N' _ (h2 _ (mem_allNews.mpr (I.led a o e)) ha)
  · have ha : a ≠ dx := fun q => by have := (I.prot a o e).2.2.2; rw [q, hd] at this; cases this
    have g := N' _ (h2 _ (mem_allNews.mpr ⟨(I.prot a o e).1, (I.prot a o e).2.1, (I.prot a o e).2.2.1⟩) ha)
    exact ⟨g.1, g.2.1, g.2.2, Led.put_none (I.prot a o e).2.2.2 ha⟩
theorem r_slice {value slice : PySem.Expr} {l : Addr} {items : Array Value} {vl vu : Value} {lo hi : Option Int} {Q : Value → Shared → Prop}
    (I : In h₀ L m N z s) (hl : s.heap.IsList l items) (pl : IsPart vl lo) (pu : IsPart vu hi) (h : ∀ a s', N a = none → In h₀ L m (N.put a (listOf (slicePick items lo hi none) 0)) z s' → Q (.ref a) s')
    (hs : subscripted slice false (.ref l) (.ref s.heap.objs.size) = operate [.ref s.heap.objs.size, .ref l] (getItem (.ref l) (.ref s.heap.objs.size)) := by with_unfolding_all rfl)
    (ht : ∀ r, letTemporaryGo value (.ref l) r = pure () := by intro _; with_unfolding_all rfl)
    (hsz : items.size ≤ sizeLine) :
    wpAny (model prog w) A (subscriptTail value slice (.ref l) (.ref s.heap.objs.size)) Q E { s with heap := s.heap.push { cls := .type "slice", data := .fields #[vl, vu, .none] } } := by
  refine slice_list I.fr I.news hl pl pu (fun h' F' N' => ?_) hs ht hsz
  have I' := I.back (tk := s.toks) F' N' fun p hp => .tail _ hp
  have n1 := I.notOld (a := s.heap.objs.size + 1) fun p hp => Nat.lt_succ_of_lt (Heap.lt_size (mem_allNews.mp hp).1)
  have g1 := N' _ (.head _)
  exact h _ _ n1.1 (I'.addLed g1.1 g1.2.1 g1.2.2 n1.2)
theorem r_set0 {Q : Value → Shared → Prop} (I : In h₀ L m N z s) (h : ∀ a o s', N a = none → In h₀ L m (N.put a o) z s' → s'.heap.SetOf (strKind prog w) a (fun _ => false) 0 → Q (.ref a) s') : wpAny (model prog w) A (call (.type "set") []) Q E s :=
  call_set_0 fun led => h _ _ _ I.fresh (I.alloc _) ((setObjOf_fresh (knd := PySem.strKind prog w) led).setOf (Heap.get?_push_size _ rfl) (by decide))
end
theorem getL_put_same (name : PySem.Str) (hsh : Int) (t : Tok) (v : Value) (es : List DictEntry) : getL name (putL name hsh (.str name t) v es) = some (some v) := by
  have key : (putL name hsh (.str name t) v es).find? (·.key.isStr name) = some ⟨((putL name hsh (.str name t) v es).find? (·.key.isStr name)).elim 0 (·.hash), ((putL name hsh (.str name t) v es).find? (·.key.isStr name)).elim .none (·.key), v⟩ := by
    induction es with
    | nil =>
      have e : Value.isStr (.str name t) name = true := by simp [Value.isStr]
      simp [putL, List.find?, e]
    | cons e r ih =>
      unfold putL
      split
      · rename_i h; simp [List.find?, h]
      · rename_i h
        rw [List.find?_cons]
        simp only [h]
        exact ih
  unfold getL
  rw [key]
theorem getL_put_ne {name name' : PySem.Str} (hsh : Int) (t : Tok) (v : Value) (hne : name' ≠ name) {es : List DictEntry} {r : Option Value} (h : getL name' es = some r) : getL name' (putL name hsh (.str name t) v es) = some r := by
  have h0 : Value.isStr (.str name t) name' = false := by simp [Value.isStr, hne.symm]
  have key : (putL name hsh (.str name t) v es).find? (·.key.isStr name') = es.find? (·.key.isStr name') ∨ ∃ e e', es.find? (·.key.isStr name') = some e ∧ (putL name hsh (.str name t) v es).find? (·.key.isStr name') = some e' ∧ e'.val = e.val := by
    clear h
    induction es with
    | nil => left; simp [putL, List.find?, h0]
    | cons e r ih =>
      unfold putL
      split
      · rename_i hk
        have hk' : Value.isStr e.key name' = false := by
          cases q : Value.isStr e.key name' with
          | false => rfl
          | true =>
            cases hke : e.key <;> simp_all [Value.isStr]
        left
        simp [List.find?, hk']
      · rename_i hk
        rw [List.find?_cons, List.find?_cons]
        cases q : Value.isStr e.key name' with
        | true => left; rfl
        | false => exact ih
  have keyR : (putL name hsh (.str name t) v es).any (·.refKey) = es.any (·.refKey) := by
    clear h key
    induction es with
    | nil => simp [putL, DictEntry.refKey]
    | cons e r ih =>
      unfold putL
      split
      · rename_i hk; simp [DictEntry.refKey]
      · rw [List.any_cons, List.any_cons, ih]
  unfold getL at h ⊢
  rcases key with key | ⟨e, e', k1, k2, k3⟩
  · rw [key, keyR]; exact h
  · rw [k1] at h; rw [k2]; dsimp only at h ⊢; rw [k3]; exact h
-- part A18
theorem txt_at : ∀ {vs : List Value} {xs : List PySem.Str} {i : Nat} {v : Value}, TxtsAre vs xs → vs[i]? = some v → ∃ x t, v = .str x t ∧ xs[i]? = some x
  | _, _, 0, _, .cons x t _, e => by simp at e; exact ⟨x, t, e.symm, rfl⟩
  | _, _, i + 1, _, .cons _ _ r, e => by simpa using txt_at (i := i) r (by simpa using e)
noncomputable def adds (xs : List PySem.Str) : Ks := xs.foldl addK ⟨fun _ => false, 0⟩
theorem adds_succ {xs : List PySem.Str} {i : Nat} {x : PySem.Str} (h : xs[i]? = some x) : adds (xs.take (i + 1)) = addK (adds (xs.take i)) x := by
  obtain ⟨hlt, he⟩ := List.getElem?_eq_some_iff.mp h
  unfold adds
  rw [List.take_succ_eq_append_getElem hlt, List.foldl_append, he]
  rfl
theorem adds_n (xs : List PySem.Str) : (adds xs).n ≤ xs.length := by
  have k : ∀ (xs : List PySem.Str) (a : Ks), (xs.foldl addK a).n ≤ a.n + xs.length := by
    intro xs
    induction xs with
    | nil => intro a; exact Nat.le_refl _
    | cons x r ih =>
      intro a
      rw [List.foldl_cons, List.length_cons]
      have h := ih (addK a x)
      have h2 : (addK a x).n ≤ a.n + 1 := by unfold addK; dsimp only; split <;> omega
      omega
  have := k xs ⟨fun _ => false, 0⟩
  dsimp only at this
  unfold adds
  omega
theorem setOf_at {prog : Program} {w : World} {h h' : Heap} {a : Addr} {S : PySem.Str → Bool} {n : Nat} (x : h.SetOf (strKind prog w) a S n) (k : ∀ o, h.get? a = some o → h'.get? a = some o) : h'.SetOf (strKind prog w) a S n := by
  obtain ⟨o, es, ep, t, h1, r⟩ := x; exact ⟨o, es, ep, t, k _ h1, r⟩
section
variable {prog : Program} {w : World} {A : Around} {R : Result → Shared → Prop}
theorem set_loop {D J l : Addr} {items : Array Value} {xs : List PySem.Str} (hh : A.handled = none) (hi : TxtsAre items.toList xs) (hb : items.size + 1 < scanBound) (hJl : l ≠ J) (hDJ : D ≠ J) :
    ∀ (k i : Nat) (s : Shared), items.size - i = k → i ≤ items.size → s.heap.IsListIter J l i → s.heap.IsList l items → s.heap.SetOf (strKind prog w) D (adds (xs.take i)).S (adds (xs.take i)).n → D ≠ l →
      (∀ h' tk, (∀ b o, b ≠ D → b ≠ J → s.heap.get? b = some o → h'.get? b = some o) → h'.SetOf (strKind prog w) D (adds xs).S (adds xs).n → R (.ok (.ret .none)) { s with heap := h', toks := tk }) →
      codeAny (model prog w) A (.builtin "set.update.loop" ⟨[.ref D, .ref J], []⟩) R s := by
  have hlen : xs.length = items.size := by have := txts_len hi; rw [Array.length_toList] at this; exact this.symm
  have hh1 : A.in1.handled = none := by simpa using hh
  intro k
  induction k with
  | zero =>
    intro i s hk hi' hit hl hS hDl hR
    have hin : i = items.size := by omega
    subst hin
    refine codeAny_builtin PyProof.Rows.F.entry_set_update_loop ?_
    rw [Around.under_plainId PyProof.Rows.F.plain_set_update_loop _]
    show wpAny _ A.in1 (pyNext (.ref J) >>= _) _ _ s
    refine wpAny_bind (wpAny_pyNext_list_end hh1 hit hl (by simp) fun h' he => ?_)
    show wpAny _ A.in1 (ret Value.none) _ _ _
    rw [← hlen, List.take_length] at hS
    exact wpAny_pure (hR h' s.toks (fun b o _ hb e => he b o hb e) (setOf_at hS fun o e => he _ _ hDJ e))
  | succ k ih =>
    intro i s hk hi' hit hl hS hDl hR
    have hlt : i < items.size := by omega
    refine codeAny_builtin PyProof.Rows.F.entry_set_update_loop ?_
    rw [Around.under_plainId PyProof.Rows.F.plain_set_update_loop _]
    show wpAny _ A.in1 (pyNext (.ref J) >>= _) _ _ s
    refine wpAny_bind (wpAny_pyNext_list_item hit hl (x := items[i]) (by simp [hlt]) fun h' hit' hs' => ?_)
    obtain ⟨x, t, hx, hxi⟩ := txt_at (i := i) hi (by rw [Array.getElem?_toList]; exact Array.getElem?_eq_getElem hlt)
    rw [hx]
    have hS' : h'.SetOf (strKind prog w) D (adds (xs.take i)).S (adds (xs.take i)).n := setOf_at hS fun o e => hs'.extBut _ _ hDJ e
    have hl' : h'.IsList l items := hl.extBut hs'.extBut hJl
    show wpAny _ A.in1 (holding [Value.str x t] (setAdd D (.str x t)) >>= _) _ _ _
    refine wpAny_bind (wpAny_holding ?_)
    unfold setAdd
    refine wpAny_holding ?_
    refine wpAny_bind ((strKind prog w).pyHash (k := x) (strKind_is _ _ _ _) ?_)
    have hroom : (adds (xs.take i)).n + 1 < scanBound := by
      have h1 := adds_n (xs.take i)
      have h2 : (xs.take i).length ≤ items.size := by rw [List.length_take]; omega
      omega
    refine wpAny_setAddHashed_of (knd := strKind prog w) (s := { s with heap := h', toks := s.toks + 1 }) (strKind_is _ _ _ _) rfl hS' hroom fun h2 hsb hS2 => ?_
    have hS3 : h2.SetOf (strKind prog w) D (adds (xs.take (i + 1))).S (adds (xs.take (i + 1))).n := by rw [adds_succ hxi]; exact hS2
    refine wpAny_pure ⟨plainId_quiet PyProof.Rows.F.plain_set_update_loop _, ih (i + 1) _ (by omega) hlt (hit'.at fun o e => (hsb.2 J hDJ.symm).trans e) (hl'.at fun o e => (hsb.2 l hDl.symm).trans e) hS3 hDl fun h3 tk hk3 hS4 => ?_⟩
    exact hR h3 tk (fun b o hb1 hb2 e => hk3 b o hb1 hb2 ((hsb.2 b hb1).trans (hs'.extBut b o hb2 e))) hS4
end

noncomputable abbrev setNew (led : Bool) : Obj := { cls := .type "set", dict := none, data := .set #[] 0 (.fresh 0 0 led) }
section
variable {prog : Program} {w : World} {A : Around} {E : Value → Shared → Prop} {s : Shared}
set_option maxRecDepth 100000 in
set_option maxHeartbeats 3200000 in
theorem call_set_txts {l : Addr} {items : Array Value} {xs : List PySem.Str} {Q : Value → Shared → Prop} (hh : A.handled = none) (hl : s.heap.IsList l items) (hi : TxtsAre items.toList xs) (hb : items.size + 1 < scanBound)
    (h : ∀ (h' : Heap) (tk : Nat), h'.SetOf (strKind prog w) s.heap.objs.size (adds xs).S (adds xs).n → (∀ b o, b < s.heap.objs.size → s.heap.get? b = some o → h'.get? b = some o) → Q (.ref s.heap.objs.size) { s with heap := h', toks := tk }) :
    wpAny (model prog w) A (call (.type "set") [.ref l]) Q E s := by
  obtain ⟨c, tl, hmro⟩ := PySem.F.called_set.mro
  have hmade := PySem.F.called_set.made
  have hsub := PySem.F.called_set.sub
  refine wpAny_call (codeAny_of_tree ?_)
  show wpAny _ _ (callAny (.type "set") _) _ _ _
  refine wpAny_pure ⟨Code.quiet_builtin _ (by decide +kernel), codeAny_builtin PySem.F.entry_type_call ?_⟩
  rw [Around.under_plain (weight_type_call_type "set" [.ref l] []) rfl]
  have h1 := PySem.F.called_set.notType
  have h2 := PySem.F.called_set.canCreate
  have hct := PySem.F.typeCall_set_1 (.ref l)
  repeat (any_goals (first | assumption | wp_step))
  refine codeAny_mono (code_set_new_1 (.ref l) (E := E) (Q₁ := fun obj s₁ => ∃ led : Bool, obj = .ref s.heap.objs.size ∧ s₁ = { s with heap := s.heap.push (setNew led) }) fun led => ⟨led, rfl, rfl⟩) fun r s₁ hr => ?_
  cases r with
  | error e => exact hr
  | ok fl =>
    cases fl with
    | ret obj =>
      obtain ⟨led, rfl, rfl⟩ := hr
      have hS : (s.heap.push (setNew led)).get? s.heap.objs.size = some (setNew led) := Heap.get?_push_size _ rfl
      have hT : Shared.TypeIs { s with heap := s.heap.push (setNew led) } (.ref s.heap.objs.size) "set" := ⟨_, hS, rfl⟩
      have hli := PySem.F.called_set.init.lookup
      have hbi := PySem.F.called_set.init.bind (.ref s.heap.objs.size)
      repeat (any_goals (first | assumption | wp_step))
      refine codeAny_mono (codeAny_call_builtin (R := wants (fun r s₂ => r = .none ∧ ∃ h' tk, s₂ = { s with heap := h', toks := tk } ∧
          h'.SetOf (strKind prog w) s.heap.objs.size (adds xs).S (adds xs).n ∧ (∀ b o, b < s.heap.objs.size → s.heap.get? b = some o → h'.get? b = some o)) E) PySem.F.called_set.init.plain PySem.F.entry_set_init (check_set_init_1 hT ?_)) fun r₂ s₂ hr₂ => ?_
      · obtain ⟨ol, hol, hcl, nl, hdl⟩ := hl
        obtain ⟨ocls, odict, odata, oslots⟩ := ol
        simp only at hcl hdl
        subst hcl; subst hdl
        have hol' : (s.heap.push (setNew led)).get? l = some { cls := .type "list", dict := odict, data := .seq items nl, slots := oslots } := Heap.get?_push_of_some _ hol
        have hsls := PySem.F.sub_list_set
        have hslf := PySem.F.sub_list_frozenset
        have hne : (Value.type "list" == Value.type "dict") = false := by decide
        have hl1 : (s.heap.push (setNew led)).IsList l items := ⟨_, hol', rfl, nl, rfl⟩
        unfold Builtin.«set.__init__» noKeywords Builtin.Frozenset.updateFrom
        generalize hPI : pyIter = PI
        wp_walk
        subst hPI
        refine wpAny_pyIter_list hl1 ?_
        refine wpAny_bind (wpAny_runValue ?_)
        have hlS : l < s.heap.objs.size := Heap.lt_size hol
        have hlt : s.heap.objs.size < (s.heap.push (setNew led)).objs.size := by rw [Heap.size_push]; exact Nat.lt_succ_self _
        refine set_loop (items := items) (xs := xs) (by simp [hh]) hi hb (Nat.ne_of_lt (Nat.lt_trans hlS hlt)) (Nat.ne_of_lt hlt) (items.size - 0) 0 _ (by omega) (Nat.zero_le _)
          ⟨_, Heap.get?_push_size _ rfl, rfl, rfl⟩ (hl1.push _) ?hS0 (Nat.ne_of_gt hlS) ?hR
        case hS0 =>
          have hget : ((s.heap.push (setNew led)).push { cls := .type "list_iterator", data := .fields #[.ref l, .int 0 0] }).get? s.heap.objs.size = some (setNew led) := Heap.get?_push_of_some _ hS
          exact (PyProof.Rows.setObjOf_fresh (knd := strKind prog w) led).setOf hget (by unfold scanBound; omega)
        case hR =>
          intro h' tk' hk' hS'
          show wpAny _ _ _ _ _ _
          refine wpAny_pure ?_
          show wpAny _ _ (ret Value.none) _ _ _
          refine wpAny_pure ⟨rfl, h', tk', rfl, hS', fun b o hb e => ?_⟩
          exact hk' b o (Nat.ne_of_lt hb) (Nat.ne_of_lt (Nat.lt_trans hb hlt)) (Heap.get?_push_of_some _ (Heap.get?_push_of_some _ e))
      · cases r₂ with
        | error e => exact hr₂
        | ok fl₂ =>
          cases fl₂ with
          | ret r =>
            obtain ⟨rfl, h', tk, rfl, hS', hk'⟩ := hr₂
            repeat (any_goals (first | assumption | wp_step))
            exact h _ _ hS' hk'
          | _ => exact hr₂.elim
    | _ => exact hr.elim
end
-- part A19
theorem set_entry_ne : entryFor table "set.__ne__" = some Builtin.«frozenset.__ne__» :=
  entryFor_alias (id' := "frozenset.__ne__") (by kernel_rfl) rfl (by decide +kernel) (by kernel_rfl)
theorem set_sub_frozen : isSubtype (.type "set") (.type "frozenset") = pure false := by rw [isSubtype_type]; kernel_rfl
theorem quiet_scan {x : Value} (h : x.scannable = true) : Builtin.Frozenset.quietEq x = pure true := by
  cases x <;> first | rfl | (simp [Value.scannable] at h)
section
variable {prog : Program} {w : World} {A : Around} {E : Value → Shared → Prop} {s : Shared}
theorem set_entries {a : Addr} {o : Obj} {es : Array (Int × Value)} {ep : Nat} {t : SetTable} {Q : Array (Int × Value) → Shared → Prop}
    (ho : s.heap.get? a = some o) (hd : o.data = .set es ep t) (hf : t.fits es.size = true) (h : Q es s) : wpAny (model prog w) A (setEntries a) Q E s := by
  unfold setEntries
  exact wpAny_bind (wpAny_setState_of ho hd hf (wpAny_pure h))
theorem set_unseen {a b : Addr} {oa ob : Obj} {ea eb : Array (Int × Value)} {pa pb : Nat} {ta tb : SetTable} {Q : List (Int × Value) → Shared → Prop}
    (ha : s.heap.get? a = some oa) (hda : oa.data = .set ea pa ta) (hfa : ta.fits ea.size = true) (hb : s.heap.get? b = some ob) (hdb : ob.data = .set eb pb tb) (hfb : tb.fits eb.size = true)
    (hsa : ∀ e ∈ ea.toList, e.2.scannable = true) (hsb : ∀ e ∈ eb.toList, e.2.scannable = true) (h : Q ea.toList s) : wpAny (model prog w) A (Builtin.Frozenset.walkUnseen a b) Q E s := by
  unfold Builtin.Frozenset.walkUnseen
  refine wpAny_bind (set_entries ha hda hfa (wpAny_bind (set_entries hb hdb hfb ?_)))
  dsimp only
  refine wpAny_bind (wpAny_forIn_list _ (fun l b s' => (∀ e ∈ l, e.2.scannable = true) ∧ b.1 = none ∧ s' = s) _ ?_ ?_ _ _ ⟨fun e he => ?_, rfl, rfl⟩)
  · rintro ⟨k, x⟩ rest b s' ⟨h1, h2, rfl⟩
    have hq := quiet_scan (x := x) (h1 (k, x) (.head _))
    refine wpAny_bind (wpAny_of_eq hq ?_)
    exact wpAny_pure ⟨fun e he => h1 e (.tail _ he), rfl, rfl⟩
  · rintro b s' ⟨_, h2, rfl⟩
    rw [h2]
    exact wpAny_pure h
  · rcases List.mem_append.mp he with he | he
    · exact hsa e he
    · exact hsb e he
theorem set_subset {tag : String} {a b : Addr} {Sa Sb : PySem.Str → Bool} {na nb : Nat} {Q : Bool → Shared → Prop} (ha : s.heap.SetOf (strKind prog w) a Sa na) (hb : s.heap.SetOf (strKind prog w) b Sb nb) (hn : na = nb) (hS : ∀ x, Sa x = true → Sb x = true) (h : Q true s) :
    wpAny (model prog w) A (Builtin.Frozenset.subsetOf tag a b) Q E s := by
  obtain ⟨oa, ea, pa, ta, a1, a2, a3, a4, a5, a6, a7, a8⟩ := id ha
  obtain ⟨ob, eb, pb, tb, b1, b2, b3, b4, b5, b6, b7, b8⟩ := id hb
  unfold Builtin.Frozenset.subsetOf Builtin.Frozenset.sizeOf
  refine wpAny_bind (wpAny_bind (set_entries a1 a3 a7 (wpAny_pure ?_)))
  refine wpAny_bind (wpAny_bind (set_entries b1 b3 b7 (wpAny_pure ?_)))
  rw [if_neg (by omega)]
  refine wpAny_bind (wpAny_setEpoch_of a1 a3 a7 ?_)
  refine wpAny_bind (set_unseen a1 a3 a7 b1 b3 b7 (fun e he => (a4 e he).2) (fun e he => (b4 e he).2) ?_)
  dsimp only
  refine wpAny_bind (wpAny_forIn_list _ (fun l b s' => (∀ e ∈ l, e ∈ ea.toList) ∧ b.1 = none ∧ s' = s) _ ?_ ?_ _ _ ⟨fun e he => he, rfl, rfl⟩)
  · rintro ⟨k, x⟩ rest b' s' ⟨h1, h2, rfl⟩
    obtain ⟨⟨y, hy, hk⟩, hsc⟩ := a4 _ (h1 _ (.head _))
    dsimp only at hy hk hsc ⊢
    subst hk
    refine wpAny_bind (wpAny_holding (wpAny_setFind_of (knd := strKind prog w) hy hsc hb fun r hr => ?_))
    have : Sb y = true := hS y ((a5 y).mpr ⟨_, h1 _ (.head _), hy⟩)
    rw [this] at hr
    rw [if_neg (by cases r <;> simp_all)]
    unfold Builtin.Frozenset.unchanged
    refine wpAny_bind (wpAny_bind (wpAny_setEpoch_of a1 a3 a7 ?_))
    rw [if_neg (by simp)]
    exact wpAny_pure (wpAny_pure ⟨fun e he => h1 e (.tail _ he), rfl, rfl⟩)
  · rintro b' s' ⟨_, h2, rfl⟩
    rw [h2]
    exact wpAny_pure h
theorem ne_sets {a b : Addr} {S : PySem.Str → Bool} {n : Nat} {Q : Value → Shared → Prop} (ha : s.heap.SetOf (strKind prog w) a S n) (hb : s.heap.SetOf (strKind prog w) b S n) (hu : A.units < cLine) (h : Q (.bool false) s) :
    wpAny (model prog w) A (compareOp .NotEq (.ref a) (.ref b)) Q E s := by
  refine wpAny_richCompare_same_room (op := .NotEq) ha.typeIs hb.typeIs PySem.F.slot_set_ne (wpAny_call_entry PySem.F.slot_set_ne ha.typeIs set_entry_ne ?_ (PySem.F.args_set_ne_2 _ _)) hu
  obtain ⟨oa, ea, pa, ta, a1, a2, a3, a4, a5, a6, a7, a8⟩ := id ha
  obtain ⟨ob, eb, pb, tb, b1, b2, b3, b4, b5, b6, b7, b8⟩ := id hb
  unfold Builtin.«frozenset.__ne__»
  refine wpAny_bind (m := Builtin.Frozenset.slot1 "__ne__" _) ?_
  unfold Builtin.Frozenset.slot1 slotArgs
  simp only [List.isEmpty_nil, Bool.not_true, Bool.false_eq_true, ↓reduceIte, bind_assoc, List.length_nil, bne_self_eq_false]
  refine wpAny_bind ?_
  rw [if_neg (by simp)]
  refine wpAny_pure (wpAny_pure ?_)
  refine wpAny_bind ?_
  unfold Builtin.Frozenset.isAnySet
  refine wpAny_bind (m := isInstance _ _) (wpAny_isInstance hb.typeIs sub_set_self ?_)
  refine wpAny_pure ?_
  dsimp only
  rw [if_neg (by decide)]
  refine wpAny_bind (m := Builtin.Frozenset.addrOf _) (wpAny_pure ?_)
  refine wpAny_bind (m := Builtin.Frozenset.addrOf _) (wpAny_pure ?_)
  refine wpAny_bind (m := Builtin.Frozenset.sizeOf _) (wpAny_bind (set_entries a1 a3 a7 (wpAny_pure ?_)))
  refine wpAny_bind (m := Builtin.Frozenset.sizeOf _) (wpAny_bind (set_entries b1 b3 b7 (wpAny_pure ?_)))
  refine wpAny_bind ?_
  rw [if_neg (by rw [a8, b8]; simp)]
  refine wpAny_bind ?_
  refine wpAny_bind (m := isInstance _ _) (wpAny_isInstance ha.typeIs set_sub_frozen ?_)
  refine wpAny_pure ?_
  rw [if_neg (by decide)]
  refine set_subset ha hb rfl (fun _ e => e) ?_
  exact wpAny_pure ⟨_, rfl, (fun q => nomatch q), h⟩
end
section
variable {prog : Program} {w : World} {A : Around} {E : Value → Shared → Prop} {h₀ : Heap} {m : PySem.Str → Option Value} {N : Led} {z : Zx} {s : Shared} {L : Addr}
theorem r_setL {l : Addr} {vs : List Value} {k : Nat} {xs : List PySem.Str} {Q : Value → Shared → Prop} (I : In h₀ L m N z s) (hh : A.handled = none) (hl : N l = some (listOf vs.toArray k)) (hi : TxtsAre vs xs) (hb : xs.length < 4000)
    (h : ∀ a o s', N a = none → In h₀ L m (N.put a o) z s' → s'.heap.SetOf (strKind prog w) a (adds xs).S (adds xs).n → Q (.ref a) s') : wpAny (model prog w) A (call (.type "set") [.ref l]) Q E s := by
  have hlen := txts_len hi
  refine call_set_txts (items := vs.toArray) (xs := xs) hh ⟨_, I.get hl, rfl, _, rfl⟩ (by simpa using hi) (by rw [List.size_toArray, hlen]; unfold scanBound; omega) fun h' tk hS hk => ?_
  obtain ⟨o, es, ep, t, h1, r⟩ := hS
  have kk : ∀ b o, s.heap.get? b = some o → h'.get? b = some o := fun b o e => hk b o (Heap.lt_size e) e
  have I' : In h₀ L m N z { s with heap := h', toks := tk } := I.keeps ⟨h', tk, rfl, kk⟩
  have fa := I.freshAll
  exact h _ o _ I.fresh (I'.addLed h1 fa.1 fa.2.1 fa.2.2) ⟨o, es, ep, t, h1, r⟩
end
-- part A20
section
variable {prog : Program} {w : World} {A : Around} {E : Value → Shared → Prop} {h₀ : Heap} {m : PySem.Str → Option Value} {N : Led} {z : Zx} {s : Shared}
/-- a list comprehension over a list of the ledger, asking and giving quietly -/
theorem r_comp {env : Env} {elt iter : PySem.Expr} {x : PySem.Str} {px pos : Pos} {ifs : List PySem.Expr} {scope : Scope} {l : Addr} {vs : List Value} {n : Nat} {Q : Value → Shared → Prop} (p : Value → Bool) (F : Value → Value → Prop) (I : In h₀ env.locals m N z s) (hh : A.handled = none)
    (hit : ∀ Q' : Value → Shared → Prop, (∀ s', In h₀ env.locals m N z s' → Q' (.ref l) s') → wpAny (model prog w) A (eval iter env) Q' E s) (hl : N l = some (listOf vs.toArray n)) (hn : vs.length ≤ 16777216)
    (hq : ∀ (s₂ : Shared) (J : Addr), In h₀ env.locals m N z s₂ → (∀ a o, N a = some o → a ≠ J) → QuietOn prog w A env scope x ifs elt [J] (fun i v => vs[i]? = some v) p F s₂)
    (h : ∀ D s' k ys, N D = none → Paired F (vs.filter p) ys → In h₀ env.locals m (N.put D (listOf ys.toArray k)) z s' → Q (.ref D) s')
    (hfree : ∀ y ∈ scope.names, y.2 ≠ .free := by decide) (hcell : ∀ y ∈ scope.names, y.2 ≠ .cell := by decide) (hkind : scope.kind = .function := by with_unfolding_all rfl)
    (hnames : ∀ y ∈ scope.names, y.2 = .local → scope.names.lookup y.1 = some .local := by decide) (hx : scope.names.lookup x = some .local := by with_unfolding_all rfl) (hs : ∀ x, foldedSetIterable iter env x = pure x := by intro _; with_unfolding_all rfl) :
    wpAny (model prog w) A (eval (.ListComp elt [⟨.Name x px, iter, ifs, 0⟩] scope pos) env) Q E s := by
  refine wpAny_ListComp_walk p F hfree hcell hkind hnames hx (hit _ fun s₁ I₁ => ?_) hs
  have hls : s₁.heap.IsList l vs.toArray := ⟨_, I₁.get hl, rfl, _, rfl⟩
  refine wpAny_pyIter_list hls ?_
  have hfr := I₁.fresh
  have hfa := I₁.freshAll
  have hne : l ≠ s₁.heap.objs.size := fun e => by rw [e, hfr] at hl; cases hl
  have hin : In h₀ env.locals m N z { s₁ with heap := s₁.heap.push { cls := .type "list_iterator", data := .fields #[.ref l, .int 0 0] } } := I₁.keeps ⟨_, _, rfl, fun _ _ e => Heap.get?_push_of_some _ e⟩
  refine ⟨s₁.heap.objs.size, _, _, _, _, _, rfl, Walks.list hh s₁.heap.objs.size l hne vs.toArray, by rw [List.size_toArray]; exact hn, ⟨⟨_, Heap.get?_push_size _ rfl, rfl, rfl⟩, hls.at fun o e => Heap.get?_push_of_some _ e⟩, fun b hb => ?_, ?_, ?_⟩
  · show b < (s₁.heap.push _).objs.size
    rw [Heap.size_push]
    simp only [List.mem_cons, List.not_mem_nil, or_false] at hb
    rcases hb with rfl | rfl
    · exact Nat.lt_succ_self _
    · exact Nat.lt_succ_of_lt (Heap.lt_size (I₁.get hl))
  · have q := hq _ s₁.heap.objs.size hin fun a o e h => by rw [h, hfr] at e; cases e
    have e : (fun (i : Nat) v => vs.toArray[i]? = some v) = fun (i : Nat) v => vs[i]? = some v := by funext i v; rw [List.getElem?_toArray]
    rw [e]; exact q
  · intro D h' tk ys us hD hL hpl hlen hP hF hk
    obtain ⟨k, hpl⟩ := hpl
    have hus : us = vs := by
      refine List.ext_getElem? fun i => ?_
      cases q : us[i]? with
      | some v => have := hP i v q; rw [List.getElem?_toArray] at this; exact this.symm
      | none =>
        have h1 : us.length ≤ i := List.getElem?_eq_none_iff.mp q
        rw [hlen, List.size_toArray] at h1
        exact (List.getElem?_eq_none_iff.mpr h1).symm
    rw [hus] at hF
    have Iw : In h₀ env.locals m N z { s₁ with heap := h', toks := tk } := hin.iter (a := s₁.heap.objs.size) hfa.1 hfa.2.1 hfr hfa.2.2 fun b o hb e => hk b o (fun hm => hb (List.mem_singleton.mp hm)) e
    have hDn := hin.new (a := D)
    have fD : N D = none ∧ D ≠ env.locals ∧ h₀.get? D = none ∧ z.prot D = none := by
      refine ⟨?_, ?_, ?_, ?_⟩
      · cases e : N D with
        | none => rfl
        | some o => have := (hin.led D o e).1; rw [hD] at this; cases this
      · intro e
        obtain ⟨oL, es, ep, g, _⟩ := hin.fr.ns
        rw [← e, hD] at g; cases g
      · cases e : h₀.get? D with
        | none => rfl
        | some o => have := hin.fr.keep D o e; rw [hD] at this; cases this
      · cases e : z.prot D with
        | none => rfl
        | some o => have := (hin.prot D o e).1; rw [hD] at this; cases this
    exact h D _ k ys.toList fD.1 hF (Iw.addLed hpl fD.2.1 fD.2.2.1 fD.2.2.2)
end
-- part C1
theorem ints_get2 : ∀ {vs : List Value} {ns : List Int} {i : Nat} {v : Value}, IntsAre vs ns → vs[i]? = some v → ∃ k t, v = .int k t ∧ ns[i]? = some k
  | _, _, 0, _, .cons n t _, e => by simp at e; exact ⟨n, t, e.symm, rfl⟩
  | _, _, i + 1, _, .cons _ _ h, e => by simpa using ints_get2 (i := i) h (by simpa using e)
theorem ints_at : ∀ {pre : List Int} {vs : List Value} {c : Int}, IntsAre vs (pre ++ [c]) → ∃ t, vs[vs.length - 1]? = some (.int c t)
  | [], vs, c, h => by
    rw [List.nil_append] at h
    cases h with
    | cons n t h' => cases h'; exact ⟨t, rfl⟩
  | p :: pre, vs, c, h => by
    rw [List.cons_append] at h
    cases h with
    | @cons n t us ns' h' =>
      obtain ⟨t', ht⟩ := ints_at (pre := pre) h'
      have hl := h'.length
      have h0 : us.length ≠ 0 := by rw [hl]; simp
      refine ⟨t', ?_⟩
      rw [List.length_cons, Nat.add_sub_cancel, ← ht]
      obtain ⟨q, hq⟩ : ∃ q, us.length = q + 1 := ⟨us.length - 1, by omega⟩
      rw [hq]; simp
theorem r_sliceFrom {prog : Program} {w : World} {A : Around} {E : Value → Shared → Prop} {h₀ : Heap} {m : PySem.Str → Option Value} {N : Led} {z : Zx} {s : Shared} {L : Addr} {value slice : Expr} {l : Addr} {items : Array Value} {k : Int} {u : Tok} {Q : Value → Shared → Prop}
    (I : In h₀ L m N z s) (hl : s.heap.IsList l items) (h : ∀ a s', N a = none → In h₀ L m (N.put a (listOf (slicePick items (some k) none none) 0)) z s' → Q (.ref a) s')
    (hs : subscripted slice false (.ref l) (.ref s.heap.objs.size) = operate [.ref s.heap.objs.size, .ref l] (getItem (.ref l) (.ref s.heap.objs.size)) := by with_unfolding_all rfl)
    (ht : ∀ r, letTemporaryGo value (.ref l) r = pure () := by intro _; with_unfolding_all rfl)
    (hsz : items.size ≤ sizeLine) :
    wpAny (model prog w) A (subscriptTail value slice (.ref l) (.ref s.heap.objs.size)) Q E { s with heap := s.heap.push { cls := .type "slice", data := .fields #[.int k u, .none, .none] } } := by
  refine slice_list I.fr I.news hl (.int _ _) .none (fun h' F' N' => ?_) hs ht hsz
  have I' := I.back (tk := s.toks) F' N' fun p hp => .tail _ hp
  have n1 := I.notOld (a := s.heap.objs.size + 1) fun p hp => Nat.lt_succ_of_lt (Heap.lt_size (mem_allNews.mp hp).1)
  have g1 := N' _ (.head _)
  exact h _ _ n1.1 (I'.addLed g1.1 g1.2.1 g1.2.2 n1.2)
theorem r_iterLN {prog : Program} {w : World} {A : Around} {E : Value → Shared → Prop} {h₀ : Heap} {m : PySem.Str → Option Value} {N : Led} {z : Zx} {s : Shared} {env : Env} {x : PySem.Str} {px : Pos} {body : List Stmt} {Q : Flow → Shared → Prop}
    {l : Addr} {vs : List Value} {n : Nat} (Inv : Nat → (PySem.Str → Option Value) → Led → Prop) (hh : A.handled = none) (hI : In h₀ env.locals m N z s) (hl : N l = some (listOf vs.toArray n)) (h0 : Inv 0 m N) (hk : ∀ i m N', Inv i m N' → N' l = some (listOf vs.toArray n))
    (turn : ∀ i v m N z' s, vs[i]? = some v → Inv i m N → Zle z z' → In h₀ env.locals m N z' s → wpAny (model prog w) A (storeName env x v) (fun _ s₁ => wpAny (model prog w) A (execs body env) (fun f s' => match f with
      | .ret v => Q (.ret v) s'
      | .brk => Q .next s'
      | _ => ∃ m' N', Inv (i + 1) m' N' ∧ In h₀ env.locals m' N' z' s') (fun _ _ => False) s₁) (fun _ _ => False) s)
    (done : ∀ m N s, Inv vs.length m N → In h₀ env.locals m N z s → Q .next s) :
    wpAny (model prog w) A (pyIter (.ref l)) (fun it s₂ => codeAny (model prog w) A (.forLoop (.Name x px) it body [] env) (fun r s' => match r with | .ok f => Q f s' | .error e => cameBackBy (model prog w) A env E e s') s₂) E s := by
  have hls : s.heap.IsList l vs.toArray := ⟨_, hI.get hl, rfl, _, rfl⟩
  refine wpAny_pyIter_list hls ?_
  have hfr := hI.fresh
  have hfa := hI.freshAll
  have hne : l ≠ s.heap.objs.size := fun e => by rw [e, hfr] at hl; cases hl
  have hin : In h₀ env.locals m N z { s with heap := s.heap.push { cls := .type "list_iterator", data := .fields #[.ref l, .int 0 0] } } := hI.keeps ⟨_, _, rfl, fun _ _ e => Heap.get?_push_of_some _ e⟩
  refine loop_walkN Inv (Walks.list hh s.heap.objs.size l hne vs.toArray) hin hfa.1 hfa.2.1 hfa.2.2 hfr ⟨⟨_, Heap.get?_push_size _ rfl, rfl, rfl⟩, hls.at fun o e => Heap.get?_push_of_some _ e⟩ h0 (fun i h hst => ?_) (fun b hb hne' => ?_) ?_ ?_
  · obtain ⟨o, ho, _⟩ := hst.1; exact ⟨o, ho⟩
  · have hb' : b = l := by
      rcases List.mem_cons.mp hb with e | e
      · exact absurd e hne'
      · exact List.mem_singleton.mp e
    subst hb'
    exact ⟨_, fun i m' N' s' hv I' => I'.get (hk _ _ _ hv)⟩
  · intro i v m' N' z' s₂ hi hP hv hzl I₂
    exact turn i v m' N' z' s₂ (by simpa using hP) hv hzl I₂
  · intro m' N' s₂ h3 h4
    exact done m' N' s₂ (by simpa using h3) h4
noncomputable def levGo (most : Int) : Int → List Int → List Int
  | _, [] => []
  | cur, x :: r =>
    let nx := if x.fmod 3 = 1 then (if most < cur + 1 then most else cur + 1) else if x.fmod 3 = 2 then (if 1 > cur - 1 then 1 else cur - 1) else cur
    nx :: levGo most nx r
noncomputable def levelsOf (most : Int) (ns : List Int) : List Int := 1 :: levGo most 1 ns.tail
-- MACROS
local macro_rules | `(tactic| walk_at "ext") => `(tactic| first
  | ((with_reducible show wpAny _ _ (getMethod (Value.ref _) (PySem.Str.ofString "append") _) _ _ _); (refine r_listMethod (by assumption) (by assumption) PySem.F.slot_list_append PySem.F.type_list_append ?_))
  | ((with_reducible show wpAny _ _ (eval (Expr.Name (PySem.Str.ofString "min") _) _) _ _ _); (refine r_builtin (by assumption) (by assumption) (by k_is) PyProof.Rows.Boot.«min» ?_))
  | ((with_reducible show wpAny _ _ (eval (Expr.Name (PySem.Str.ofString "max") _) _) _ _ _); (refine r_builtin (by assumption) (by assumption) (by k_is) PyProof.Rows.Boot.«max» ?_))
  | ((with_reducible refine r_neg (by assumption) ?_); intro _ _ _))
-- END MACROS
set_option maxRecDepth 100000 in
set_option maxHeartbeats 4000000 in
theorem levels_spec {w : World} {A : Around} {E : Value → Shared → Prop} {mg mb : PySem.Str → Option Value} {s : Shared} (G : Glo (hd.heap_1 w.params) mg mb s.heap) (R : Rm A 1 20) {l : Addr} {vs : List Value} {ns : List Int} (hl : s.heap.IsList l vs.toArray) (hI : IntsAre vs ns) (hn : ns.length ≤ 100) (most : Int) (t : Tok) :
    wpAny (model PySem.Challenge.rw_kp0026_05.prog w) A (call (.ref 113) [.ref l, .int most t]) (fun v s' => (∃ a ws k, v = .ref a ∧ s'.heap.get? a = some (listOf ws.toArray k) ∧ s.heap.get? a = none ∧ IntsAre ws (levelsOf most ns)) ∧ Keeps s s') E s := by
  refine' call_fn (binds := [(Str.ofString "row", .ref l), (Str.ofString "most", .int most t)]) (fun v s' => ∃ a ws k, v = .ref a ∧ s'.heap.get? a = some (listOf ws.toArray k) ∧ s.heap.get? a = none ∧ IntsAre ws (levelsOf most ns)) G (R.less (d' := 0) (u' := 0)).depth ?ho ?hcd ?hb ?hc ?hl ?c1 ?c2 ?c3 ?_
  case ho => k_is
  case hcd => k_is
  case hb => exact BindsTo.of_eq rfl
  case hc => decide
  case hl => exact locs rfl
  case c1 => rfl
  case c2 => rfl
  case c3 => rfl
  intro s₁ I
  refine letQE ?_
  intro QQ EE
  walk_at "gs"
  refine x_for (wpAny_For ?_ (by intro _; with_unfolding_all rfl))
  walk_at "gs"
  refine wpAny_Slice (evalPart_some_step ?_)
  walk_at "gs"
  refine evalPart_none_step (evalPart_none_step ?_)
  refine r_sliceFrom (by assumption) (hl.at fun o e => Fr.keep (In.fr (by assumption)) _ _ e) ?_ (by with_unfolding_all rfl) (by intro _; with_unfolding_all rfl) (by rw [List.size_toArray, hI.length]; show _ ≤ 16777216; omega)
  intro a2 s2 ha2 I2
  rename_i a1 s3 hn1 _ _ s4 I4 _ _ _ _
  obtain ⟨us, hus, hui⟩ : ∃ us : List Value, slicePick vs.toArray (some 1) none none = us.toArray ∧ IntsAre us (ns.drop 1) := ⟨(slicePick vs.toArray (some 1) none none).toList, rfl, slice_ints_fromW (x := 1) hI (by decide)⟩
  rw [hus] at I2
  have hul : us.length ≤ 100 := by rw [hui.length, List.length_drop]; omega
  have e12 : a1 ≠ a2 := fun e => by rw [← e, Led.put_same] at ha2; cases ha2
  refine r_iterLN (fun i m N => m (Str.ofString "levels") = some (.ref a1) ∧ m (Str.ofString "most") = some (.int most t) ∧ N a2 = some (listOf us.toArray 0) ∧ ∃ ws k pre cur, N a1 = some (listOf ws.toArray k) ∧ IntsAre ws (pre ++ [cur]) ∧ pre ++ [cur] ++ levGo most cur ((ns.drop 1).drop i) = levelsOf most ns ∧ ws.length = i + 1)
    R.handled I2 Led.put_same ⟨by walk_at "look", by walk_at "look", Led.put_same, _, 0, [], 1, by rw [Led.put_ne e12]; exact Led.put_same, .cons _ _ .nil, by simp [levelsOf], rfl⟩ (fun _ _ _ h => h.2.2.1) ?turn ?done
  case done =>
    rintro m N s5 ⟨h1, h2, h3, ws, k, pre, cur, h4, h5, h6, h7⟩ I5
    refine then_next ?_
    walk_at "gs"
    refine ⟨⟨a1, ws, k, rfl, I5.get h4, (I5.led a1 _ h4).2.2, ?_⟩, _, _, _, I5⟩
    rw [← h6, hui.length, List.drop_length, levGo, List.append_nil]
    exact h5
  rintro i v m N z' s5 hv ⟨h1, h2, h3, ws, k, pre, cur, h4, h5, h6, h7⟩ hz I5
  obtain ⟨x, tx, rfl, hx⟩ := ints_get2 hui hv
  obtain ⟨tc, htc⟩ := ints_at h5
  have hlast : ws[(-1 + (ws.length : Int)).toNat]? = some (.int cur tc) := by
    have e : (-1 + (ws.length : Int)).toNat = ws.length - 1 := by omega
    rw [e]; exact htc
  have hil : i < us.length := by
    have := (List.getElem?_eq_some_iff.mp hv).1; exact this
  have hdr : (ns.drop 1).drop i = x :: (ns.drop 1).drop (i + 1) := by
    obtain ⟨hlt, he⟩ := List.getElem?_eq_some_iff.mp hx
    rw [List.drop_eq_getElem_cons hlt, he]
  rw [hdr] at h6
  have fin : ∀ {m' : PySem.Str → Option Value} {s' : Shared} {k' : Nat} {nx : Int} {tn : Tok}, In s.heap s.heap.objs.size m' (N.put a1 (listOf (ws ++ [Value.int nx tn]).toArray k')) z' s' → m' (Str.ofString "levels") = some (.ref a1) → m' (Str.ofString "most") = some (.int most t) →
      nx = (if x.fmod 3 = 1 then (if most < cur + 1 then most else cur + 1) else if x.fmod 3 = 2 then (if 1 > cur - 1 then 1 else cur - 1) else cur) →
      ∃ m' N', (m' (Str.ofString "levels") = some (.ref a1) ∧ m' (Str.ofString "most") = some (.int most t) ∧ N' a2 = some (listOf us.toArray 0) ∧ ∃ ws k pre cur, N' a1 = some (listOf ws.toArray k) ∧ IntsAre ws (pre ++ [cur]) ∧ pre ++ [cur] ++ levGo most cur ((ns.drop 1).drop (i + 1)) = levelsOf most ns ∧ ws.length = i + 1 + 1) ∧ In s.heap s.heap.objs.size m' N' z' s' := by
    intro m' s' k' nx tn J g1 g2 g3
    refine ⟨m', N.put a1 (listOf (ws ++ [Value.int nx tn]).toArray k'), ⟨g1, g2, by rw [Led.put_ne e12.symm]; exact h3, ws ++ [Value.int nx tn], k', pre ++ [cur], nx, Led.put_same, h5.append (.cons _ _ .nil), ?_, by rw [List.length_append, h7]; rfl⟩, J⟩
    rw [← h6, levGo, ← g3]
    simp
  refine r_store (x := Str.ofString "x") I5 (fun s6 I6 => ?_)
  walk_at "gs"
  refine if_beq (fun c1 => ?_) (fun c1 => ?_)
  · refine x_cons (wpAny_Expr_any ?_ (by with_unfolding_all rfl) (by with_unfolding_all rfl))
    walk_at "gs"
    refine r_itemNeg (by assumption) h4 (by decide) (by omega) (by decide) hlast ?_ (by with_unfolding_all rfl)
    walk_at "gs"
    refine r_min (by assumption) R.handled ?_
    intro tn s8 I8
    walk_at "gs"
    refine r_append (by assumption) h4 ?_ (by show _ ≤ 16777216; omega)
    intro s9 k9 I9
    refine then_next ?_
    walk_at "gs"
    exact fin I9 (by walk_at "look") (by walk_at "look") (by rw [if_pos c1])
  walk_at "gs"
  refine if_beq (fun c2 => ?_) (fun c2 => ?_)
  · refine x_cons (wpAny_Expr_any ?_ (by with_unfolding_all rfl) (by with_unfolding_all rfl))
    walk_at "gs"
    refine r_itemNeg (by assumption) h4 (by decide) (by omega) (by decide) hlast ?_ (by with_unfolding_all rfl)
    walk_at "gs"
    refine r_max (by assumption) R.handled ?_
    intro tn s8 I8
    walk_at "gs"
    refine r_append (by assumption) h4 ?_ (by show _ ≤ 16777216; omega)
    intro s9 k9 I9
    refine then_next ?_
    walk_at "gs"
    exact fin I9 (by walk_at "look") (by walk_at "look") (by rw [if_neg c1, if_pos c2])
  · refine x_cons (wpAny_Expr_any ?_ (by with_unfolding_all rfl) (by with_unfolding_all rfl))
    walk_at "gs"
    refine r_itemNeg (by assumption) h4 (by decide) (by omega) (by decide) hlast ?_ (by with_unfolding_all rfl)
    walk_at "gs"
    refine r_append (by assumption) h4 ?_ (by show _ ≤ 16777216; omega)
    intro s9 k9 I9
    refine then_next ?_
    walk_at "gs"
    exact fin I9 (by walk_at "look") (by walk_at "look") (by rw [if_neg c1, if_neg c2])
-- part C2
theorem L_v : (Str.ofString "v").length = 1 := by decide +kernel
theorem L_k : (Str.ofString "k").length = 1 := by decide +kernel
theorem L_n : (Str.ofString "n").length = 1 := by decide +kernel
theorem L_ex : (Str.ofString "!").length = 1 := by decide +kernel
theorem L_lt : (Str.ofString "<").length = 1 := by decide +kernel
theorem L_gt : (Str.ofString ">").length = 1 := by decide +kernel
theorem L_co : (Str.ofString ":").length = 1 := by decide +kernel
theorem L_mid : (Str.ofString "mid").length = 3 := by decide +kernel
theorem L_nil : (Str.ofString "").length = 0 := by decide +kernel
theorem L_format : (Str.ofString "format").length = 6 := by decide +kernel
section
variable {prog : Program} {w : World} {A : Around} {E : Value → Shared → Prop} {h₀ : Heap} {m : PySem.Str → Option Value} {N : Led} {z : Zx} {s : Shared} {L : Addr}
theorem r_strMark {v : Value} {mk : Option PySem.Str} {Q : Value → Shared → Prop} (I : In h₀ L m N z s) (hv : OptIs v mk) (h : ∀ t s', In h₀ L m N z s' → Q (.str (markT mk) t) s') : wpAny (model prog w) A (call (.type "str") [v]) Q E s := by
  cases mk with
  | none => rw [hv.of_none]; exact P.str_of_none (h _ _ (I.toks _))
  | some x => obtain ⟨t, e⟩ := hv.of_some; rw [e]; exact P.str_of_str (h _ _ I)
end
-- MACROS
local macro_rules | `(tactic| walk_at "sz2") => `(tactic| ((simp only [PySem.Str.length_append, L_v, L_k, L_n, L_ex, L_lt, L_gt, L_co, L_mid, L_nil, L_format]); (show _ ≤ 16777216); omega))
local macro_rules | `(tactic| walk_at "ext") => `(tactic| first
  | ((with_reducible refine wpAny_is_ref_self ?_))
  | ((with_reducible refine wpAny_IfExp ?_))
  | ((with_reducible show wpAny _ _ (call (Value.type "str") [_]) _ _ _); (with_reducible refine r_strMark (by assumption) (by assumption) ?_); intro _ _ _)
  | ((with_reducible refine wpAny_isTrue_BoolOp ?_))
  | ((with_reducible show wpAny _ _ (binaryOp Operator.Add (Value.str _ _) (Value.str _ _)) _ _ _); (refine r_addS (by assumption) ?_ (by walk_at "sz2")); intro _ _ _))
local macro_rules | `(tactic| walk_at "ext") => `(tactic| ((with_reducible show wpAny _ _ (eval (Expr.Name _ _) _) _ _ _); (with_reducible refine r_free (by assumption) (by with_unfolding_all rfl) (by assumption) ?_)))
local macro_rules | `(tactic| walk_at "le") => `(tactic| first | with_reducible exact Led.Le.refl _ | with_reducible exact Led.le_put (by assumption) | (with_reducible refine Led.Le.trans ?_ (Led.le_put (by assumption)); walk_at "le"))
-- END MACROS
/-- the law's own lines, and the lambdas in them -/
noncomputable def lawB (K : Frag) : List Stmt := match K.lookup 118 with
  | some ⟨_, _, .func fd, _⟩ => (match fd.body with
    | .stmts b => b
    | _ => [])
  | _ => []
noncomputable abbrev Lam := Arguments × PySem.Expr × Scope × Pos
noncomputable def lamOf : PySem.Expr → Option Lam
  | .Lambda p b s pos => some (p, b, s, pos)
  | _ => none
noncomputable def lamIn (b : List Stmt) (i : Nat) : Option Lam := match b[i]? with
  | some (.Assign _ e _) => lamOf e
  | _ => none
noncomputable def lamAt (K : Frag) (i : Nat) : Option Lam := lamIn (lawB K) i
theorem lawB_of {K : Frag} {oc : Value} {od : Option Addr} {osl : Array (Option Value)} {name qual : PySem.Str} {params : Arguments} {body : List Stmt} {scope : Scope} {cl : List (PySem.Str × Addr)} {dV kV doc pm cdv ct : Value} {an : Option Addr}
    (ho : K.lookup 118 = some ⟨oc, od, .func (fnX name qual params body scope cl dV kV doc pm an cdv ct), osl⟩) : lawB K = body := by
  unfold lawB; rw [ho]
theorem lam_go {K : Frag} {oc : Value} {od : Option Addr} {osl : Array (Option Value)} {name qual : PySem.Str} {params : Arguments} {body : List Stmt} {scope : Scope} {cl : List (PySem.Str × Addr)} {dV kV doc pm cdv ct : Value} {an : Option Addr}
    {i : Nat} {l l' : Lam} {G : Prop} (hl : lamAt K i = some l) (ho : K.lookup 118 = some ⟨oc, od, .func (fnX name qual params body scope cl dV kV doc pm an cdv ct), osl⟩) (e : lamIn body i = some l') (h : l = l' → G) : G :=
  h (Option.some.inj (hl.symm.trans (by rw [lamAt, lawB_of ho]; exact e)))
noncomputable def innerOf : PySem.Expr → Option Lam
  | .Subscript (.Tuple [_, .Call _ (e :: _) _ _] _ _) _ _ => lamOf e
  | _ => none
noncomputable def innerAt (K : Frag) : Option Lam := (lamAt K 18).bind fun l => innerOf l.2.1
/-- where things lie -/
structure Ad where
  log : Addr
  used : Addr
  tab : Addr
  cLog : Addr
  cPcs : Addr
  cArgs : Addr
  cNamed : Addr
  pcs : Addr
  args : Addr
  named : Addr
  xf : Addr
  dxf : Addr
  fp : Addr
  cp : Addr
  fg : Addr
  cg : Addr
  fc : Addr
  cc : Addr
  ff : Addr
  cf : Addr
noncomputable def Ad.W (D : Ad) : List Addr := [D.log, D.used, D.tab]
noncomputable def qP : PySem.Str := Str.ofString "law" ++ ".<locals>." ++ "<lambda>"
noncomputable def qI : PySem.Str := qP ++ ".<locals>." ++ "<lambda>"
noncomputable def FnAt (h : Heap) (q : PySem.Str) (f c : Addr) (clos : List (PySem.Str × Addr)) (l : Option Lam) : Prop :=
  ∃ params body scope pos pm ctv, l = some (params, body, scope, pos) ∧ h.get? f = some (kla_obj "<lambda>" q params body scope clos pm c ctv) ∧ h.CodeRec (.ref c) q
theorem FnAt.keeps {h h' : Heap} {q : PySem.Str} {f c : Addr} {clos : List (PySem.Str × Addr)} {l : Option Lam} (x : FnAt h q f c clos l) (k : ∀ b o, h.get? b = some o → h'.get? b = some o) : FnAt h' q f c clos l := by
  obtain ⟨a, b, s, p, pm, ctv, h1, h2, h3⟩ := x
  exact ⟨a, b, s, p, pm, ctv, h1, k _ _ h2, h3.keeps k⟩
noncomputable def evR : Ev → Row
  | .parse t => [some (Str.ofString "parse"), some t]
  | .piece t => [some (Str.ofString "piece"), some t]
  | .get n => [some (Str.ofString "get"), some n]
  | .convert v m => [some (Str.ofString "convert"), some v, m]
  | .format v t => [some (Str.ofString "format"), some v, some t]
noncomputable def pcR (p : Pc) : Row := [p.lit, p.name, p.shape, p.mark]
/-- what stays as it is while _vformat runs -/
structure Cn (K : Frag) (w : World) (D : Ad) (P : List (PySem.Str × List Pc)) (h : Heap) : Prop where
  cLog : h.IsCell D.cLog (some (.ref D.log))
  cPcs : h.IsCell D.cPcs (some (.ref D.pcs))
  cArgs : h.IsCell D.cArgs (some (.ref D.args))
  cNamed : h.IsCell D.cNamed (some (.ref D.named))
  pcs : ∃ f, h.MapOf (strKind PySem.Challenge.rw_kp0026_05.prog w) D.pcs f ∧ ∀ u l, P.lookup u = some l → ∃ a vs k, f u = some (.ref a) ∧ h.get? a = some (listOf vs.toArray k) ∧ RowsAre h.get? vs (l.map pcR)
  xf : h.get? D.xf = some (instObj 102 D.dxf)
  dxf : ∃ es n, h.get? D.dxf = some (dictOf es n) ∧ getL (Str.ofString "parse") es = some (some (.ref D.fp)) ∧ getL (Str.ofString "get_field") es = some (some (.ref D.fg)) ∧ getL (Str.ofString "convert_field") es = some (some (.ref D.fc)) ∧
    getL (Str.ofString "format_field") es = some (some (.ref D.ff)) ∧ getL (Str.ofString "_vformat") es = some none
  fp : FnAt h qP D.fp D.cp [(Str.ofString "pieces", D.cPcs), (Str.ofString "log", D.cLog)] (lamAt K 18)
  fg : FnAt h qP D.fg D.cg [(Str.ofString "named", D.cNamed), (Str.ofString "log", D.cLog), (Str.ofString "args", D.cArgs)] (lamAt K 19)
  fc : FnAt h qP D.fc D.cc [(Str.ofString "log", D.cLog)] (lamAt K 20)
  ff : FnAt h qP D.ff D.cf [(Str.ofString "log", D.cLog)] (lamAt K 21)
  hd : CodeHd h D.cp D.tab
theorem Cn.keeps {K : Frag} {w : World} {D : Ad} {P : List (PySem.Str × List Pc)} {h h' : Heap} (C : Cn K w D P h) (k : ∀ b o, h.get? b = some o → h'.get? b = some o) : Cn K w D P h' where
  cLog := C.cLog.keeps k
  cPcs := C.cPcs.keeps k
  cArgs := C.cArgs.keeps k
  cNamed := C.cNamed.keeps k
  pcs := by
    obtain ⟨f, ⟨o, es, ep, h1, r⟩, h2⟩ := C.pcs
    refine ⟨f, ⟨o, es, ep, k _ _ h1, r⟩, fun u l hl => ?_⟩
    obtain ⟨a, vs, n, q1, q2, q3⟩ := h2 u l hl
    exact ⟨a, vs, n, q1, k _ _ q2, RowsAre.mono (fun a vs e => k _ _ e) q3⟩
  xf := k _ _ C.xf
  dxf := by obtain ⟨es, n, h1, r⟩ := C.dxf; exact ⟨es, n, k _ _ h1, r⟩
  fp := C.fp.keeps k
  fg := C.fg.keeps k
  fc := C.fc.keeps k
  ff := C.ff.keeps k
  hd := C.hd.keeps k
/-- what changes while _vformat runs: the log, the set of used keys, the table of parse's code -/
structure St where
  log : List Ev
  S : PySem.Str → Bool
  n : Nat
noncomputable def CodeAt (h : Heap) (c : Addr) (q : PySem.Str) : Prop := ∃ o vs, h.get? c = some o ∧ o.cls = .type "code" ∧ o.data = .fields vs ∧ RecO o c q
noncomputable def TabOk (K : Frag) (ps : Array Value) (h : Heap) : Prop := ps = #[] ∨ ∃ l c, innerAt K = some l ∧ ps = #[rawInt l.2.2.2.line, rawInt l.2.2.2.col, .ref c] ∧ CodeAt h c qI
structure Vr (K : Frag) (w : World) (D : Ad) (st : St) (h : Heap) : Prop where
  log : ∃ vs k, h.get? D.log = some (listOf vs.toArray k) ∧ RowsAre h.get? vs (st.log.map evR)
  used : h.SetOf (strKind PySem.Challenge.rw_kp0026_05.prog w) D.used st.S st.n
  tab : ∃ ps, h.get? D.tab = some (tabObj ps) ∧ TabOk K ps h
/-- no tuple and no code object -/
noncomputable def Mov (o : Obj) : Prop := (∀ vs, o ≠ tupleOf vs) ∧ ¬ (o.cls = .type "code" ∧ ∃ vs, o.data = .fields vs)
theorem ty_ne {a b : String} (h : a ≠ b) : Value.type a ≠ Value.type b := fun e => by injection e with e; exact h e
theorem mov_dict {o : Obj} {es : Array DictEntry} {n : Nat} (h : o.data = .dict es n) : Mov o := ⟨(fun vs e => by subst e; cases h), fun q => by obtain ⟨_, vs, q⟩ := q; rw [h] at q; cases q⟩
theorem mov_list {vs : Array Value} {n : Nat} : Mov (listOf vs n) := ⟨fun us e => ty_ne (by decide) (congrArg Obj.cls e), fun q => by obtain ⟨_, vs, q⟩ := q; cases q⟩
theorem TabOk.mono {K : Frag} {ps : Array Value} {h h' : Heap} (x : TabOk K ps h) (k : ∀ c o vs, h.get? c = some o → o.cls = .type "code" → o.data = .fields vs → h'.get? c = some o) : TabOk K ps h' := by
  rcases x with x | ⟨l, c, h1, h2, o, vs, h3, h4, h5, h6⟩
  · exact .inl x
  · exact .inr ⟨l, c, h1, h2, o, vs, k c o vs h3 h4 h5, h4, h5, h6⟩
theorem Vr.move {K : Frag} {w : World} {D : Ad} {st : St} {s s' : Shared} {X : List Addr} (V : Vr K w D st s.heap) (k : Kp X s s') (hX : ∀ x ∈ X, x ∉ D.W ∧ ∀ o, s.heap.get? x = some o → Mov o) : Vr K w D st s'.heap := by
  have t : ∀ a vs, s.heap.get? a = some (tupleOf vs) → s'.heap.get? a = some (tupleOf vs) := fun a vs e => k a _ (fun q => ((hX a q).2 _ e).1 vs rfl) e
  have W : ∀ a o, a ∈ D.W → s.heap.get? a = some o → s'.heap.get? a = some o := fun a o h e => k a _ (fun q => (hX a q).1 h) e
  obtain ⟨⟨vs, n, h1, h2⟩, ⟨o, es, ep, tt, h3, r3⟩, ps, h4, h5⟩ := V
  refine ⟨⟨vs, n, W _ _ (.head _) h1, RowsAre.mono t h2⟩, ⟨o, es, ep, tt, W _ _ (.tail _ (.head _)) h3, r3⟩, ps, W _ _ (.tail _ (.tail _ (.head _))) h4, h5.mono fun c o vs e h h' => k c _ (fun q => ((hX c q).2 _ e).2 ⟨h, vs, h'⟩) e⟩
/-- all of it, at a place in the run -/
structure Wld (K : Frag) (w : World) (mg mb : PySem.Str → Option Value) (D : Ad) (P : List (PySem.Str × List Pc)) (st : St) (s : Shared) : Prop where
  glo : Glo K mg mb (hideAll s.heap D.W)
  bm : BuiltM mg (hideAll s.heap D.W)
  cn : Cn K w D P (hideAll s.heap D.W)
  vr : Vr K w D st s.heap
theorem hide_mono {W : List Addr} {h h' : Heap} (k : ∀ b o, b ∉ W → h.get? b = some o → h'.get? b = some o) : ∀ b o, (hideAll h W).get? b = some o → (hideAll h' W).get? b = some o := fun b o e => by
  have hb : b ∉ W := fun q => by rw [hideAll_none _ q] at e; cases e
  exact hideAll_get _ (k b o hb (of_hideAll _ e)) hb
section
variable {K : Frag} {w : World} {mg mb : PySem.Str → Option Value} {D : Ad} {P : List (PySem.Str × List Pc)} {st st' : St} {s s' : Shared}
/-- the ledger of a lambda's frame: what may change -/
noncomputable def ledW (D : Ad) (h : Heap) : Led := fun a => if a ∈ D.W then h.get? a else none
theorem ledW_in {D : Ad} {h : Heap} {a : Addr} (h1 : a ∈ D.W) : ledW D h a = h.get? a := if_pos h1
theorem ledW_ok : ∀ a o, ledW D s.heap a = some o → s.heap.get? a = some o ∧ (hideAll s.heap D.W).get? a = none := fun a o e => by
  unfold ledW at e
  split at e
  · rename_i h; exact ⟨e, hideAll_none _ h⟩
  · cases e
/-- back from a lambda: one more in the log -/
theorem Vr.loggedT {L : Addr} {m : PySem.Str → Option Value} {N : Led} {z : Zx} {ev : Ev} {vs : List Value} {v : Value} {k k' : Nat} (V : Vr K w D st s.heap) (I : In (hideAll s.heap D.W) L m N z s') (h0 : s.heap.get? D.log = some (listOf vs.toArray k)) (hr : RowsAre s.heap.get? vs (st.log.map evR))
    (h1 : N D.log = some (listOf (vs ++ [v]).toArray k')) (h2 : RowAt N v (evR ev)) (h3 : N D.used = s.heap.get? D.used) (h4 : ∃ ps, N D.tab = some (tabObj ps) ∧ TabOk K ps s'.heap) :
    Vr K w D { st with log := st.log ++ [ev] } s'.heap ∧ (∀ a us, s.heap.get? a = some (tupleOf us) → s'.heap.get? a = some (tupleOf us)) ∧ ∀ ps, TabOk K ps s.heap → TabOk K ps s'.heap := by
  obtain ⟨_, ⟨o, es, ep, tt, h5, r5⟩, ps, h6, h7⟩ := V
  have notW : ∀ a o, s.heap.get? a = some o → (a ∈ D.W → False) → s'.heap.get? a = some o := fun a o e hn => I.fr.keep a o (hideAll_get _ e hn)
  have isW : ∀ a o, s.heap.get? a = some o → a ∈ D.W → (∃ vs n, o = listOf vs n) ∨ (∃ es ep t, o.data = .set es ep t) ∨ ∃ ps, o = tabObj ps := fun a o e hm => by
    simp only [Ad.W, List.mem_cons, List.not_mem_nil, or_false] at hm
    rcases hm with rfl | rfl | rfl
    · rw [h0] at e; cases e; exact .inl ⟨_, _, rfl⟩
    · rw [h5] at e; cases e; exact .inr (.inl ⟨_, _, _, r5.2.1⟩)
    · rw [h6] at e; cases e; exact .inr (.inr ⟨_, rfl⟩)
  have tup : ∀ a vs, s.heap.get? a = some (tupleOf vs) → s'.heap.get? a = some (tupleOf vs) := fun a vs e => notW a _ e fun hm => by
    rcases isW a _ e hm with ⟨_, _, q⟩ | ⟨_, _, _, q⟩ | ⟨_, q⟩
    · exact ty_ne (by decide) (congrArg Obj.cls q)
    · cases q
    · cases congrArg Obj.cls q
  refine ⟨⟨⟨vs ++ [v], k', (I.led _ _ h1).1, ?_⟩, ⟨o, es, ep, tt, (I.led _ _ (h3.trans h5)).1, r5⟩, ?_⟩, tup, fun ps x => x.mono fun c o us e h h' => notW c o e fun hm => ?_⟩
  · rw [List.map_append]
    refine (RowsAre.mono tup hr).append (.cons ?_ .nil)
    exact h2.mono fun a us e => (I.led a _ e).1
  · obtain ⟨ps, q1, q2⟩ := h4
    exact ⟨ps, (I.led _ _ q1).1, q2⟩
  · rcases isW c _ e hm with ⟨_, _, q⟩ | ⟨_, _, _, q⟩ | ⟨_, q⟩
    · subst q; exact ty_ne (by decide) h
    · rw [h'] at q; cases q
    · subst q; cases h
theorem Vr.tabs {L : Addr} {m : PySem.Str → Option Value} {N : Led} {z : Zx} (V : Vr K w D st s.heap) (I : In (hideAll s.heap D.W) L m N z s') {ps : Array Value} (x : TabOk K ps s.heap) : TabOk K ps s'.heap := by
  obtain ⟨⟨vs, k, h0, _⟩, ⟨o, es, ep, tt, h5, r5⟩, ps', h6, _⟩ := V
  refine x.mono fun c o us e h h' => I.fr.keep c o (hideAll_get _ e fun hm => ?_)
  simp only [Ad.W, List.mem_cons, List.not_mem_nil, or_false] at hm
  rcases hm with rfl | rfl | rfl
  · rw [h0] at e; cases e; exact ty_ne (by decide) h
  · rw [h5] at e; cases e; rw [r5.2.1] at h'; cases h'
  · rw [h6] at e; cases e; cases h
theorem Vr.logged {L : Addr} {m : PySem.Str → Option Value} {N : Led} {z : Zx} {ev : Ev} {vs : List Value} {v : Value} {k k' : Nat} (V : Vr K w D st s.heap) (I : In (hideAll s.heap D.W) L m N z s') (h0 : s.heap.get? D.log = some (listOf vs.toArray k)) (hr : RowsAre s.heap.get? vs (st.log.map evR))
    (h1 : N D.log = some (listOf (vs ++ [v]).toArray k')) (h2 : RowAt N v (evR ev)) (h3 : N D.used = s.heap.get? D.used) (h4 : N D.tab = s.heap.get? D.tab) : Vr K w D { st with log := st.log ++ [ev] } s'.heap := by
  obtain ⟨ps, h6, h7⟩ := V.tab
  exact (V.loggedT I h0 hr h1 h2 h3 ⟨ps, h4.trans h6, V.tabs I h7⟩).1
theorem Vr.step {L : Addr} {m : PySem.Str → Option Value} {z : Zx} {ev : Ev} {vs us : List Value} {a : Addr} {k k' : Nat} (V : Vr K w D st s.heap) (hlu : D.log ≠ D.used) (hlt : D.log ≠ D.tab)
    (h0 : s.heap.get? D.log = some (listOf vs.toArray k)) (hr : RowsAre s.heap.get? vs (st.log.map evR)) (ha : ledW D s.heap a = none) (hrow : All2 OptIs us (evR ev))
    (I : In (hideAll s.heap D.W) L m (((ledW D s.heap).put a (tupleOf us.toArray)).put D.log (listOf (vs ++ [Value.ref a]).toArray k')) z s') :
    ∃ N3, (∀ {L' m' N' z' s''}, In (hideAll s.heap D.W) L' m' N' z' s'' → Led.Le N3 N' → Vr K w D { st with log := st.log ++ [ev] } s''.heap) ∧ In (hideAll s.heap D.W) L m N3 z s' := by
  refine ⟨_, fun {L' m' N' z' s''} J hle => ?_, I⟩
  have hl : ledW D s.heap D.log = some (listOf vs.toArray k) := (ledW_in (.head _)).trans h0
  have hal : a ≠ D.log := fun q => by rw [q, hl] at ha; cases ha
  have get : ∀ b, b ∈ D.W → b ≠ D.log → ∀ o, s.heap.get? b = some o → N' b = some o := fun b hb hne o e => hle _ _ (by
    rw [Led.put_ne hne]
    exact Led.put_of ((ledW_in hb).trans e) ha)
  obtain ⟨_, h3, _, _, h5, _⟩ := V.used
  obtain ⟨ps, h6, _⟩ := V.tab
  exact V.logged J h0 hr (hle _ _ Led.put_same) ⟨a, us, rfl, hle _ _ (by rw [Led.put_ne hal]; exact Led.put_same), hrow⟩
    ((get _ (.tail _ (.head _)) hlu.symm _ h5).trans h5.symm) ((get _ (.tail _ (.tail _ (.head _))) hlt.symm _ h6).trans h6.symm)
end
section
variable {prog : Program} {w : World} {A : Around} {E : Value → Shared → Prop} {h₀ : Heap} {m : PySem.Str → Option Value} {N : Led} {z : Zx} {s : Shared} {L : Addr}
theorem r_strNat {n : Nat} {t : Tok} {Q : Value → Shared → Prop} (I : In h₀ L m N z s) (hn : n < 1000000) (h : ∀ t s', In h₀ L m N z s' → Q (.str (numT n) t) s') : wpAny (model prog w) A (call (.type "str") [.int (n : Int) t]) Q E s :=
  P.str_of_int (PyProof.Rows.shown (N := 1000000) (by omega) (by omega) (by decide +kernel)) (h _ _ (I.toks _))
theorem r_itemD {value slice : Expr} {d : Addr} {f : PySem.Str → Option Value} {x : PySem.Str} {t : Tok} {v : Value} {Q : Value → Shared → Prop} (I : In h₀ L m N z s) (hm : s.heap.MapOf (strKind prog w) d f) (hv : f x = some v) (h : ∀ s', In h₀ L m N z s' → s'.heap = s.heap → Q v s')
    (hs : subscripted slice false (.ref d) (.str x t) = operate [.ref d, .str x t] (getItem (.ref d) (.str x t)) := by with_unfolding_all rfl) :
    wpAny (model prog w) A (subscriptTail value slice (.ref d) (.str x t)) Q E s :=
  tail_any hm.typeIs slot_dict_getitem.lookup (wpAny_getItem_of (strKind_is _ _ _ _) hm hv (h _ (I.toks _) rfl)) hs
end
-- part C3
structure Apart (D : Ad) : Prop where
  lu : D.log ≠ D.used
  lt : D.log ≠ D.tab
  ut : D.used ≠ D.tab
set_option maxRecDepth 100000 in
set_option maxHeartbeats 4000000 in
theorem get_spec {w : World} {A : Around} {mg mb : PySem.Str → Option Value} {D : Ad} {P : List (PySem.Str × List Pc)} {st : St} {s : Shared} (X : Wld (hd.heap_1 w.params) w mg mb D P st s) (R : Rm A 1 10) (hD : Apart D) (hz : st.log.length ≤ 100000) (n : PySem.Str) (t : Tok) (hn : n.length ≤ 1000) :
    wpAny (model PySem.Challenge.rw_kp0026_05.prog w) A (call (.ref D.fg) [.str n t, .ref D.args, .ref D.named])
      (fun v s' => ((∃ a t1 t2, v = .ref a ∧ s'.heap.get? a = some (tupleOf #[.str (Str.ofString "v" ++ n) t1, .str (Str.ofString "k" ++ n) t2])) ∧ Vr (hd.heap_1 w.params) w D { st with log := st.log ++ [.get n] } s'.heap) ∧ Gk (hideAll s.heap D.W) s s') (fun _ _ => False) s := by
  obtain ⟨params, body, scope, pos, pm, ctv, hl, hf, hc⟩ := X.cn.fg
  refine' lam_go (l' := (_, _, _, _)) hl ?ho ?e ?_
  case ho => k_is
  case e => with_unfolding_all rfl
  intro e
  injection e with e1 e
  injection e with e2 e
  injection e with e3 e4
  subst e1 e2 e3 e4
  obtain ⟨vs, k, hlog, hrows⟩ := X.vr.log
  have hvl : vs.length ≤ 100000 := by rw [hrows.length, List.length_map]; exact hz
  have C1 := X.cn.cLog
  have C2 := X.cn.cArgs
  have C3 := X.cn.cNamed
  refine call_lamG (N₀ := ledW D s.heap) (H := hideAll s.heap D.W) [(Str.ofString "name", .str n t), (Str.ofString "a", .ref D.args), (Str.ofString "b", .ref D.named)] _ _ (fun b o e => of_hideAll _ e) (Nat.le_of_eq (hideAll_size _ _)) ledW_ok X.glo.nolimit (R.less (d' := 0) (u' := 0)).depth (of_hideAll _ hf) (hc.keeps fun b o e => of_hideAll _ e) rfl (by decide) (locs rfl) rfl rfl rfl ?_
  intro s₁ I
  have hN : ledW D s.heap D.log = some (listOf vs.toArray k) := (ledW_in (.head _)).trans hlog
  refine letQ ?_
  intro QQ
  walk_at "gs"
  refine r_append (by assumption) (Led.put_of hN (by assumption)) ?_ (by show _ ≤ 16777216; omega)
  intro s3 k3 I3
  obtain ⟨N3, hV, J3⟩ := X.vr.step (ev := .get n) hD.lu hD.lt hlog hrows (by assumption) (us := [_, _]) (.cons OptIs.s (.cons OptIs.s .nil)) I3
  walk_at "gs"
  refine r_itemT (In.get (by assumption) Led.put_same) (by decide) (by decide) rfl ?_
  exact ⟨⟨⟨_, _, _, rfl, In.get (by assumption) (Led.put_of Led.put_same (by assumption))⟩, hV (by assumption) (by walk_at "le")⟩, _, _, _, by assumption⟩
set_option maxRecDepth 100000 in
set_option maxHeartbeats 4000000 in
theorem conv_spec {w : World} {A : Around} {mg mb : PySem.Str → Option Value} {D : Ad} {P : List (PySem.Str × List Pc)} {st : St} {s : Shared} (X : Wld (hd.heap_1 w.params) w mg mb D P st s) (R : Rm A 1 10) (hD : Apart D) (hz : st.log.length ≤ 100000) (n : PySem.Str) (t : Tok) (hn : n.length ≤ 1000) (mv : Value) (mk : Option PySem.Str) (hm : OptIs mv mk) (hml : (markT mk).length ≤ 1000) :
    wpAny (model PySem.Challenge.rw_kp0026_05.prog w) A (call (.ref D.fc) [.str n t, mv])
      (fun v s' => ((∃ t1, v = .str (n ++ Str.ofString "!" ++ markT mk) t1) ∧ Vr (hd.heap_1 w.params) w D { st with log := st.log ++ [.convert n mk] } s'.heap) ∧ Gk (hideAll s.heap D.W) s s') (fun _ _ => False) s := by
  obtain ⟨params, body, scope, pos, pm, ctv, hl, hf, hc⟩ := X.cn.fc
  refine' lam_go (l' := (_, _, _, _)) hl ?ho ?e ?_
  case ho => k_is
  case e => with_unfolding_all rfl
  intro e
  injection e with e1 e
  injection e with e2 e
  injection e with e3 e4
  subst e1 e2 e3 e4
  obtain ⟨vs, k, hlog, hrows⟩ := X.vr.log
  have hvl : vs.length ≤ 100000 := by rw [hrows.length, List.length_map]; exact hz
  have C1 := X.cn.cLog
  refine call_lamG (N₀ := ledW D s.heap) (H := hideAll s.heap D.W) [(Str.ofString "value", .str n t), (Str.ofString "mark", mv)] _ _ (fun b o e => of_hideAll _ e) (Nat.le_of_eq (hideAll_size _ _)) ledW_ok X.glo.nolimit (R.less (d' := 0) (u' := 0)).depth (of_hideAll _ hf) (hc.keeps fun b o e => of_hideAll _ e) rfl (by decide) (locs rfl) rfl rfl rfl ?_
  intro s₁ I
  have hN : ledW D s.heap D.log = some (listOf vs.toArray k) := (ledW_in (.head _)).trans hlog
  have G := X.glo
  refine letQ ?_
  intro QQ
  walk_at "gs"
  refine r_append (by assumption) (Led.put_of hN (by assumption)) ?_ (by show _ ≤ 16777216; omega)
  intro s3 k3 I3
  obtain ⟨N3, hV, J3⟩ := X.vr.step (ev := .convert n mk) hD.lu hD.lt hlog hrows (by assumption) (us := [_, _, _]) (.cons OptIs.s (.cons OptIs.s (.cons hm .nil))) I3
  walk_at "gs"
  refine r_itemT (In.get (by assumption) Led.put_same) (by decide) (by decide) rfl ?_
  exact ⟨⟨⟨_, rfl⟩, hV (by assumption) (by walk_at "le")⟩, _, _, _, by assumption⟩
set_option maxRecDepth 100000 in
set_option maxHeartbeats 4000000 in
theorem fmt_spec {w : World} {A : Around} {mg mb : PySem.Str → Option Value} {D : Ad} {P : List (PySem.Str × List Pc)} {st : St} {s : Shared} (X : Wld (hd.heap_1 w.params) w mg mb D P st s) (R : Rm A 1 10) (hD : Apart D) (hz : st.log.length ≤ 100000) (n : PySem.Str) (t : Tok) (hn : n.length ≤ 100000) (x : PySem.Str) (u : Tok) (hx : x.length ≤ 100000) :
    wpAny (model PySem.Challenge.rw_kp0026_05.prog w) A (call (.ref D.ff) [.str n t, .str x u])
      (fun v s' => ((∃ t1, v = .str (shown n x) t1) ∧ Vr (hd.heap_1 w.params) w D { st with log := st.log ++ [.format n x] } s'.heap) ∧ Gk (hideAll s.heap D.W) s s') (fun _ _ => False) s := by
  obtain ⟨params, body, scope, pos, pm, ctv, hl, hf, hc⟩ := X.cn.ff
  refine' lam_go (l' := (_, _, _, _)) hl ?ho ?e ?_
  case ho => k_is
  case e => with_unfolding_all rfl
  intro e
  injection e with e1 e
  injection e with e2 e
  injection e with e3 e4
  subst e1 e2 e3 e4
  obtain ⟨vs, k, hlog, hrows⟩ := X.vr.log
  have hvl : vs.length ≤ 100000 := by rw [hrows.length, List.length_map]; exact hz
  have C1 := X.cn.cLog
  refine call_lamG (N₀ := ledW D s.heap) (H := hideAll s.heap D.W) [(Str.ofString "value", .str n t), (Str.ofString "text", .str x u)] _ _ (fun b o e => of_hideAll _ e) (Nat.le_of_eq (hideAll_size _ _)) ledW_ok X.glo.nolimit (R.less (d' := 0) (u' := 0)).depth (of_hideAll _ hf) (hc.keeps fun b o e => of_hideAll _ e) rfl (by decide) (locs rfl) rfl rfl rfl ?_
  intro s₁ I
  have hN : ledW D s.heap D.log = some (listOf vs.toArray k) := (ledW_in (.head _)).trans hlog
  refine letQ ?_
  intro QQ
  walk_at "gs"
  refine r_append (by assumption) (Led.put_of hN (by assumption)) ?_ (by show _ ≤ 16777216; omega)
  intro s3 k3 I3
  obtain ⟨N3, hV, J3⟩ := X.vr.step (ev := .format n x) hD.lu hD.lt hlog hrows (by assumption) (us := [_, _, _]) (.cons OptIs.s (.cons OptIs.s (.cons OptIs.s .nil))) I3
  walk_at "gs"
  refine r_itemT (In.get (by assumption) Led.put_same) (by decide) (by decide) rfl ?_
  exact ⟨⟨⟨_, rfl⟩, hV (by assumption) (by walk_at "le")⟩, _, _, _, by assumption⟩
theorem lam_goI {K : Frag} {oc : Value} {od : Option Addr} {osl : Array (Option Value)} {name qual : PySem.Str} {params : Arguments} {body : List Stmt} {scope : Scope} {cl : List (PySem.Str × Addr)} {dV kV doc pm cdv ct : Value} {an : Option Addr}
    {l l' : Lam} {G : Prop} (hl : innerAt K = some l) (ho : K.lookup 118 = some ⟨oc, od, .func (fnX name qual params body scope cl dV kV doc pm an cdv ct), osl⟩) (e : ((lamIn body 18).bind fun l => innerOf l.2.1) = some l') (h : l = l' → G) : G :=
  h (Option.some.inj (hl.symm.trans (by rw [innerAt, lamAt, lawB_of ho]; exact e)))
set_option maxRecDepth 100000 in
set_option maxHeartbeats 4000000 in
/-- the lambda that parse makes: one piece is taken -/
theorem inner_spec {w : World} {A : Around} {mg mb : PySem.Str → Option Value} {D : Ad} {P : List (PySem.Str × List Pc)} {st : St} {s : Shared} (X : Wld (hd.heap_1 w.params) w mg mb D P st s) (R : Rm A 1 10) (hD : Apart D) (hz : st.log.length ≤ 100000) {fi ci cT : Addr} {u : PySem.Str} {tu : Tok}
    (hF : FnAt (hideAll s.heap D.W) qI fi ci [(Str.ofString "text", cT), (Str.ofString "log", D.cLog)] (innerAt (hd.heap_1 w.params))) (hT : (hideAll s.heap D.W).IsCell cT (some (.str u tu))) (x : Value) :
    wpAny (model PySem.Challenge.rw_kp0026_05.prog w) A (call (.ref fi) [x])
      (fun v s' => (v = x ∧ Vr (hd.heap_1 w.params) w D { st with log := st.log ++ [.piece u] } s'.heap) ∧ Gk (hideAll s.heap D.W) s s') (fun _ _ => False) s := by
  obtain ⟨params, body, scope, pos, pm, ctv, hl, hf, hc⟩ := hF
  refine' lam_goI (l' := (_, _, _, _)) hl ?ho ?e ?_
  case ho => k_is
  case e => with_unfolding_all rfl
  intro e
  injection e with e1 e
  injection e with e2 e
  injection e with e3 e4
  subst e1 e2 e3 e4
  obtain ⟨vs, k, hlog, hrows⟩ := X.vr.log
  have hvl : vs.length ≤ 100000 := by rw [hrows.length, List.length_map]; exact hz
  have C1 := X.cn.cLog
  refine call_lamG (N₀ := ledW D s.heap) (H := hideAll s.heap D.W) [(Str.ofString "piece", x)] _ _ (fun b o e => of_hideAll _ e) (Nat.le_of_eq (hideAll_size _ _)) ledW_ok X.glo.nolimit (R.less (d' := 0) (u' := 0)).depth (of_hideAll _ hf) (hc.keeps fun b o e => of_hideAll _ e) rfl (by decide) (locs rfl) rfl rfl rfl ?_
  intro s₁ I
  have hN : ledW D s.heap D.log = some (listOf vs.toArray k) := (ledW_in (.head _)).trans hlog
  refine letQ ?_
  intro QQ
  walk_at "gs"
  refine r_append (by assumption) (Led.put_of hN (by assumption)) ?_ (by show _ ≤ 16777216; omega)
  intro s3 k3 I3
  obtain ⟨N3, hV, J3⟩ := X.vr.step (ev := .piece u) hD.lu hD.lt hlog hrows (by assumption) (us := [_, _]) (.cons OptIs.s (.cons OptIs.s .nil)) I3
  walk_at "gs"
  refine r_itemT (In.get (by assumption) Led.put_same) (by decide) (by decide) rfl ?_
  exact ⟨⟨rfl, hV (by assumption) (by walk_at "le")⟩, _, _, _, by assumption⟩
-- part C4
-- MACROS
local macro_rules | `(tactic| walk_at "ext") => `(tactic| first
  | ((with_reducible show wpAny _ _ (eval (Expr.Name (PySem.Str.ofString "map") _) _) _ _ _); (refine r_builtin (by assumption) (by assumption) (by k_is) PyProof.Rows.Boot.«map» ?_))
  | ((with_reducible show wpAny _ _ (eval (Expr.Name _ _) _) _ _ _); (with_reducible refine r_cell (by assumption) (by with_unfolding_all rfl) (by assumption) (by assumption) ?_)))
-- END MACROS
theorem In.forget {h₀ : Heap} {L : Addr} {m : PySem.Str → Option Value} {N : Led} {z : Zx} {s : Shared} (I : In h₀ L m N z s) (P : Led → Prop) (h : P N) : ∃ N', P N' ∧ In h₀ L m N' z s := ⟨N, h, I⟩
/-- a map over the pieces pl, at its start -/
structure MapAt (K : Frag) (D : Ad) (u : PySem.Str) (lst : Addr) (mp : Addr) (h h' : Heap) : Prop where
  ex : ∃ T it fi ci cT tu, h'.get? mp = some (mapObj T (.ref fi)) ∧ h'.get? T = some (tup1 it) ∧ h'.get? it = some (iterObj lst 0) ∧
    FnAt (hideAll h' D.W) qI fi ci [(Str.ofString "text", cT), (Str.ofString "log", D.cLog)] (innerAt K) ∧ (hideAll h' D.W).IsCell cT (some (.str u tu)) ∧ h.get? mp = none ∧ h.get? T = none ∧ h.get? it = none
theorem mapOf_at {prog : Program} {w : World} {h h' : Heap} {a : Addr} {f : PySem.Str → Option Value} (x : h.MapOf (strKind prog w) a f) (k : ∀ b o, h.get? b = some o → h'.get? b = some o) : h'.MapOf (strKind prog w) a f := by
  obtain ⟨o, es, ep, h1, r⟩ := x; exact ⟨o, es, ep, k _ _ h1, r⟩
theorem r_map {prog : Program} {w : World} {A : Around} {E : Value → Shared → Prop} {h₀ : Heap} {L : Addr} {m : PySem.Str → Option Value} {N : Led} {z : Zx} {s : Shared} {f : Value} {lst : Addr} {xs : Array Value} {Q : Value → Shared → Prop} (I : In h₀ L m N z s) (hl : s.heap.IsList lst xs)
    (h : ∀ mp T it s', N mp = none → N T = none → N it = none → mp ≠ T → mp ≠ it → T ≠ it → In h₀ L m (((N.put it (iterObj lst 0)).put T (tup1 it)).put mp (mapObj T f)) z s' → Q (.ref mp) s') :
    wpAny (model prog w) A (call (.type "map") [f, .ref lst]) Q E s := by
  refine call_map hl ?_
  have z1 : (mapH1 s.heap lst).objs.size = s.heap.objs.size + 1 := Heap.size_push ..
  have z2 : (mapH2 s.heap lst).objs.size = s.heap.objs.size + 2 := by rw [Heap.size_push, z1]
  have l1 : s.heap.objs.size < (mapH1 s.heap lst).objs.size := by rw [z1]; exact Nat.lt_succ_self _
  have l2 : (mapH1 s.heap lst).objs.size < (mapH2 s.heap lst).objs.size := by rw [z1, z2]; exact Nat.lt_succ_self _
  exact h _ _ _ _ (I.new (Nat.le_of_lt (Nat.lt_trans l1 l2))).1 (I.new (Nat.le_of_lt l1)).1 (I.new (Nat.le_refl _)).1 (Nat.ne_of_gt l2) (Nat.ne_of_gt (Nat.lt_trans l1 l2)) (Nat.ne_of_gt l1) (((I.alloc (iterObj lst 0)).alloc (tup1 s.heap.objs.size)).alloc (mapObj (mapH1 s.heap lst).objs.size f))
theorem Vr.codeHide {K : Frag} {w : World} {D : Ad} {st : St} {h : Heap} {c : Addr} {q : PySem.Str} (V : Vr K w D st h) (x : CodeAt h c q) : (hideAll h D.W).CodeRec (.ref c) q := by
  obtain ⟨⟨vs, k, h0, _⟩, ⟨o, es, ep, tt, h5, r5⟩, ps', h6, _⟩ := V
  obtain ⟨oc, us, e, h, h', hr⟩ := x
  refine hr _ (hideAll_get _ e fun hm => ?_)
  simp only [Ad.W, List.mem_cons, List.not_mem_nil, or_false] at hm
  rcases hm with rfl | rfl | rfl
  · rw [h0] at e; cases e; exact ty_ne (by decide) h
  · rw [h5] at e; cases e; rw [r5.2.1] at h'; cases h'
  · rw [h6] at e; cases e; cases h
/-- what the making of the inner lambda gives -/
structure LamGot (K : Frag) (D : Ad) (H : Heap) (N N' : Led) (z : Zx) (cT fi ci : Addr) (ps' : Array Value) : Prop where
  fn : ∃ params body scope pos pm ctv, innerAt K = some (params, body, scope, pos) ∧ N' fi = some (kla_obj "<lambda>" qI params body scope [(Str.ofString "text", cT), (Str.ofString "log", D.cLog)] pm ci ctv)
  tab : N' D.tab = some (tabObj ps')
  keep : ∀ a o, a ≠ D.tab → N a = some o → N' a = some o
  ok : ∀ {L m N'' s''}, In H L m N'' z s'' → Led.Le N' N'' → TabOk K ps' s''.heap ∧ CodeAt s''.heap ci qI
set_option maxRecDepth 100000 in
set_option maxHeartbeats 4000000 in
/-- parse: a map over the pieces -/
theorem parse_spec {w : World} {A : Around} {mg mb : PySem.Str → Option Value} {D : Ad} {P : List (PySem.Str × List Pc)} {st : St} {s : Shared} (X : Wld (hd.heap_1 w.params) w mg mb D P st s) (R : Rm A 1 10) (hD : Apart D) (hz : st.log.length ≤ 100000) (u : PySem.Str) (t : Tok) {f : PySem.Str → Option Value} {lst : Addr} {us : List Value} {kl : Nat} (hm : (hideAll s.heap D.W).MapOf (strKind PySem.Challenge.rw_kp0026_05.prog w) D.pcs f) (hfu : f u = some (.ref lst)) (hlst : (hideAll s.heap D.W).get? lst = some (listOf us.toArray kl)) :
    wpAny (model PySem.Challenge.rw_kp0026_05.prog w) A (call (.ref D.fp) [.str u t])
      (fun v s' => ((∃ mp, v = .ref mp ∧ MapAt (hd.heap_1 w.params) D u lst mp s.heap s'.heap) ∧ Vr (hd.heap_1 w.params) w D { st with log := st.log ++ [.parse u] } s'.heap) ∧ Gk (hideAll s.heap D.W) s s') (fun _ _ => False) s := by
  obtain ⟨params, body, scope, pos, pm, ctv, hl, hf, hc⟩ := X.cn.fp
  refine' lam_go (l' := (_, _, _, _)) hl ?ho ?e ?_
  case ho => k_is
  case e => with_unfolding_all rfl
  intro e
  injection e with e1 e
  injection e with e2 e
  injection e with e3 e4
  subst e1 e2 e3 e4
  obtain ⟨vs, k, hlog, hrows⟩ := X.vr.log
  have hvl : vs.length ≤ 100000 := by rw [hrows.length, List.length_map]; exact hz
  have C1 := X.cn.cLog
  have C2 := X.cn.cPcs
  have G := X.glo
  refine call_lamC (N₀ := ledW D s.heap) (H := hideAll s.heap D.W) (x := Str.ofString "text") _ _ (fun b o e => of_hideAll _ e) (Nat.le_of_eq (hideAll_size _ _)) ledW_ok X.glo.nolimit (R.less (d' := 0) (u' := 0)).depth (of_hideAll _ hf) (hc.keeps fun b o e => of_hideAll _ e) rfl (fun n => by with_unfolding_all rfl) (fun h => by with_unfolding_all rfl) (by with_unfolding_all rfl) rfl rfl rfl ?_
  intro s₁ oc hcn hoc I
  have hN : ledW D s.heap D.log = some (listOf vs.toArray k) := (ledW_in (.head _)).trans hlog
  obtain ⟨ou, _, _, _, hu1, _, hu2, _⟩ := X.vr.used
  obtain ⟨ps, ht1, htok⟩ := X.vr.tab
  obtain ⟨N1, ⟨n1, n2, n3, n4⟩, I1⟩ := In.forget I (fun N => N D.log = some (listOf vs.toArray k) ∧ N (s.heap.objs.size + 1) = some oc ∧ N D.used = some ou ∧ N D.tab = some (tabObj ps))
    ⟨Led.put_of hN hcn, Led.put_same, Led.put_of ((ledW_in (.tail _ (.head _))).trans hu1) hcn, Led.put_of ((ledW_in (.tail _ (.tail _ (.head _)))).trans ht1) hcn⟩
  clear I
  refine letQ ?_
  intro QQ
  walk_at "gs"
  rename_i t1 s2 I2 a2 s3 hn2 _ I3
  refine r_append (by assumption) (Led.put_of n1 (by assumption)) ?_ (by show _ ≤ 16777216; omega)
  intro s4 k4 I4
  have e1 : a2 ≠ D.log := fun q => by rw [q, n1] at hn2; cases hn2
  have e2 : s.heap.objs.size + 1 ≠ D.log := fun q => by rw [q, hN] at hcn; cases hcn
  obtain ⟨N2, ⟨p1, p2, p3, p4, p5⟩, J4⟩ := In.forget I4 (fun N => N D.log = some (listOf (vs ++ [Value.ref a2]).toArray k4) ∧ N (s.heap.objs.size + 1) = some oc ∧ N D.used = some ou ∧ N D.tab = some (tabObj ps) ∧ N a2 = some (tupleOf [Value.str (Str.ofString "parse") t1, Value.str u t].toArray))
    ⟨Led.put_same, by rw [Led.put_ne e2]; exact Led.put_of n2 hn2, by rw [Led.put_ne hD.lu.symm]; exact Led.put_of n3 hn2, by rw [Led.put_ne hD.lt.symm]; exact Led.put_of n4 hn2, by rw [Led.put_ne e1]; exact Led.put_same⟩
  clear I1 I2 I3 I4
  walk_at "gs"
  refine cut (fun v s' => ∃ fi ci ps' N3, v = .ref fi ∧ LamGot (hd.heap_1 w.params) D (hideAll s.heap D.W) N2 N3 (Zx.of s) (s.heap.objs.size + 1) fi ci ps' ∧ In (hideAll s.heap D.W) s.heap.objs.size (fun _ => none) N3 (Zx.of s) s') ?lam ?rest
  case lam =>
    rcases htok with rfl | ⟨l, c, hi, rfl, hcode⟩
    · refine r_lamNew J4 G.g X.bm (by with_unfolding_all rfl) (by intro q; cases q) (by with_unfolding_all rfl) (X.cn.hd.keeps J4.fr.keep) p4 (by exact True.intro) (by with_unfolding_all rfl) ?_
      intro f c' P' ctv N' s' LM I'
      obtain ⟨oc', hc1, hc2, hc3⟩ := LM.cd
      have hcodeAt : ∀ {L m N'' s'' z''}, In (hideAll s.heap D.W) L m N'' z'' s'' → Led.Le N' N'' → CodeAt s''.heap c' qI := fun {L m N'' s'' z''} J hle => by
        have g := (J.led _ _ (hle _ _ hc1)).1
        obtain ⟨o, us, _, _, _, _, _, _, _, x1, x2, x3, _⟩ := hc2 _ g
        rw [g] at x1; cases x1
        exact ⟨oc', us, g, x2, x3, hc3⟩
      refine ⟨f, c', _, N', rfl, ⟨?fn, LM.tab, LM.keep, fun {L m N'' s''} J hle => ?ok⟩, I'⟩
      case fn =>
        refine' ⟨_, _, _, _, _, _, ?hin, LM.fn⟩
        case hin => rw [innerAt, hl]; with_unfolding_all rfl
      case ok => exact ⟨.inr ⟨_, c', (by rw [innerAt, hl]; with_unfolding_all rfl), rfl, hcodeAt J hle⟩, hcodeAt J hle⟩
    · have hi' := hi
      rw [innerAt, hl] at hi'
      have hi2 := Option.some.inj hi'
      subst hi2
      refine r_lamHit J4 G.g X.bm (by with_unfolding_all rfl) (by with_unfolding_all rfl) (X.cn.hd.keeps J4.fr.keep) p4 (by first | exact True.intro | (simp [TriplesOk, rawInt]; done)) (c' := c) (by first | rfl | (simp [codeAmong, rawInt]; done)) ?_
      intro f ctv s' hnf I'
      have htk : TabOk (hd.heap_1 w.params) _ s.heap := .inr ⟨_, c, hi, rfl, hcode⟩
      have hcodeAt : ∀ {L m N'' s'' z''}, In (hideAll s.heap D.W) L m N'' z'' s'' → CodeAt s''.heap c qI := fun {L m N'' s'' z''} J => by
        obtain ⟨l2, c2, h1, h2, h3⟩ | ⟨l2, c2, h1, h2, h3⟩ := X.vr.tabs J htk
        have h4 := congrArg (fun a : Array Value => a[2]?) h2
        have h5 : c = c2 := by
          have h6 : some (Value.ref c) = some (Value.ref c2) := h4
          injection h6 with h6; injection h6
        subst h5; exact h3
      refine ⟨f, c, _, _, rfl, ⟨⟨_, _, _, _, _, _, hi, Led.put_same⟩, Led.put_of p4 hnf, fun a o hne e => Led.put_of e hnf, fun {L m N'' s''} J hle => ⟨X.vr.tabs J htk, hcodeAt J⟩⟩, I'⟩
  case rest =>
    rintro _ s5 ⟨fi, ci, ps', N3, rfl, LG, I5⟩
    have q1 := LG.keep _ _ hD.lt p1
    have q3 := LG.keep _ _ hD.ut p3
    have e3 : s.heap.objs.size + 1 ≠ D.tab := fun q => by
      have := (ledW_in (D := D) (h := s.heap) (a := D.tab) (.tail _ (.tail _ (.head _)))).trans ht1
      rw [← q, hcn] at this; cases this
    have e4 : a2 ≠ D.tab := fun q => by rw [q, n4] at hn2; cases hn2
    have q2 := LG.keep _ _ e3 p2
    have q5 := LG.keep _ _ e4 p5
    clear J4
    walk_at "gs"
    refine r_itemD I5 (mapOf_at hm I5.fr.keep) hfu ?_
    intro s6 I6 _
    clear I5
    walk_at "gs"
    refine r_map I6 (xs := us.toArray) ⟨_, I6.fr.keep _ _ hlst, rfl, _, rfl⟩ ?_
    intro mp T it s7 y1 y2 y3 x1 x2 x3 I7
    have old : ∀ a o, N3 a = some o → (((N3.put it (iterObj lst 0)).put T (tup1 it)).put mp (mapObj T (.ref fi))) a = some o := fun a o e => Led.put_of (Led.put_of (Led.put_of e y3) (Led.put_none y2 x3)) (Led.put_none (Led.put_none y1 x2) x1)
    obtain ⟨N4, ⟨g1, g2, g3, g4⟩, I8⟩ := In.forget I7 (fun N => (∀ a o, N3 a = some o → N a = some o) ∧ N mp = some (mapObj T (.ref fi)) ∧ N T = some (tup1 it) ∧ N it = some (iterObj lst 0))
      ⟨old, Led.put_same, by rw [Led.put_ne x1.symm]; exact Led.put_same, by rw [Led.put_ne x2.symm, Led.put_ne x3.symm]; exact Led.put_same⟩
    clear I7 I6 old
    walk_at "gs"
    refine r_itemT (In.get (by assumption) Led.put_same) (by decide) (by decide) rfl ?_
    rename_i a9 s9 hn9 _ _ t10 s10 I10
    have le : Led.Le N4 (N4.put a9 (tupleOf [Value.none, Value.ref mp].toArray)) := Led.le_put hn9
    have le3 : Led.Le N3 (N4.put a9 (tupleOf [Value.none, Value.ref mp].toArray)) := fun a o e => le a o (g1 a o e)
    have lg := fun a o e => (I10.led a o (le a o e)).1
    have notW : ∀ a o, N3 a = some o → a ≠ D.log → a ≠ D.used → a ≠ D.tab → a ∉ D.W := fun a o e h1 h2 h3 hm => by
      simp only [Ad.W, List.mem_cons, List.not_mem_nil, or_false] at hm
      rcases hm with h | h | h
      · exact h1 h
      · exact h2 h
      · exact h3 h
    have hW : ∀ a, a ∈ D.W → ∃ o, N4 a = some o := fun a hm => by
      simp only [Ad.W, List.mem_cons, List.not_mem_nil, or_false] at hm
      rcases hm with rfl | rfl | rfl
      · exact ⟨_, g1 _ _ q1⟩
      · exact ⟨_, g1 _ _ q3⟩
      · exact ⟨_, g1 _ _ LG.tab⟩
    have fresh : ∀ a, N3 a = none → N4 a ≠ none → s.heap.get? a = none := fun a ha hb => by
      cases e : s.heap.get? a with
      | none => rfl
      | some o =>
        have hm : a ∉ D.W := fun hm => by
          simp only [Ad.W, List.mem_cons, List.not_mem_nil, or_false] at hm
          rcases hm with rfl | rfl | rfl
          · rw [q1] at ha; cases ha
          · rw [q3] at ha; cases ha
          · rw [LG.tab] at ha; cases ha
        obtain ⟨o', ho'⟩ := Option.ne_none_iff_exists'.mp hb
        have := (I10.led a o' (le a o' ho')).2.2
        rw [hideAll_get _ e hm] at this; cases this
    obtain ⟨ok1, ok2⟩ := LG.ok I10 le3
    obtain ⟨V, _, _⟩ := X.vr.loggedT (ev := .parse u) I10 hlog hrows (le3 _ _ q1) ⟨a2, _, rfl, le3 _ _ q5, .cons OptIs.s (.cons OptIs.s .nil)⟩ ((le3 _ _ q3).trans hu1.symm) ⟨ps', le3 _ _ LG.tab, ok1⟩
    obtain ⟨params, body, scope, pos, pm', ctv', hin, hfi⟩ := LG.fn
    have hfiW : fi ∉ D.W := fun hm => by
      simp only [Ad.W, List.mem_cons, List.not_mem_nil, or_false] at hm
      rcases hm with rfl | rfl | rfl
      · rw [q1] at hfi; cases congrArg (fun o => o.map Obj.data) hfi
      · rw [q3] at hfi
        have := Option.some.inj hfi
        rw [this] at hu2; cases hu2
      · rw [LG.tab] at hfi; cases congrArg (fun o => o.map Obj.data) hfi
    refine ⟨⟨⟨mp, rfl, ⟨T, it, fi, ci, s.heap.objs.size + 1, t, lg _ _ g2, lg _ _ g3, lg _ _ g4, ?_, ?_, fresh _ y1 (by rw [g2]; nofun), fresh _ y2 (by rw [g3]; nofun), fresh _ y3 (by rw [g4]; nofun)⟩⟩, V⟩, _, _, _, I10⟩
    · refine ⟨params, body, scope, pos, pm', ctv', hin, hideAll_get _ (I10.led _ _ (le3 _ _ hfi)).1 hfiW, V.codeHide ok2⟩
    · refine ⟨oc, hideAll_get _ (I10.led _ _ (le3 _ _ q2)).1 (notW _ _ q2 e2 (fun q => by
        have := (ledW_in (D := D) (h := s.heap) (a := D.used) (.tail _ (.head _))).trans hu1
        rw [← q, hcn] at this; cases this) e3), hoc⟩
-- part C5
noncomputable def advS (st : St) (evs : List Ev) : St := ⟨st.log ++ evs, (keysK ⟨st.S, st.n⟩ evs).S, (keysK ⟨st.S, st.n⟩ evs).n⟩
theorem advS_nil (st : St) : advS st [] = st := by unfold advS; rw [List.append_nil]; rfl
theorem advS_app (st : St) (l r : List Ev) : advS st (l ++ r) = advS (advS st l) r := by
  unfold advS
  rw [keysK_app, List.append_assoc]
theorem advS_len (st : St) (l : List Ev) : (advS st l).log.length = st.log.length + l.length := by unfold advS; rw [List.length_append]
/-- a frame of _vformat: what lies behind it -/
structure Fx (K : Frag) (w : World) (mg mb : PySem.Str → Option Value) (D : Ad) (P : List (PySem.Str × List Pc)) (H : Heap) (L : Addr) : Prop where
  glo : Glo K mg mb H
  bm : BuiltM mg H
  cn : Cn K w D P H
  out : ∀ a ∈ D.W, a ≠ L ∧ H.get? a = none
section
variable {K : Frag} {w : World} {mg mb : PySem.Str → Option Value} {D : Ad} {P : List (PySem.Str × List Pc)} {st st' : St} {s s' s0 : Shared} {H : Heap} {L : Addr} {m m' : PySem.Str → Option Value} {N N' : Led}
theorem Vr.there {h : Heap} (V : Vr K w D st h) : ∀ a ∈ D.W, ∃ o, h.get? a = some o := fun a hm => by
  obtain ⟨⟨vs, k, h0, _⟩, ⟨o, es, ep, tt, h5, r5⟩, ps', h6, _⟩ := V
  simp only [Ad.W, List.mem_cons, List.not_mem_nil, or_false] at hm
  rcases hm with rfl | rfl | rfl
  · exact ⟨_, h0⟩
  · exact ⟨_, h5⟩
  · exact ⟨_, h6⟩
theorem Fx.hasW (F : Fx K w mg mb D P H L) (V : Vr K w D st s.heap) : ∀ a ∈ D.W, ∃ o, fullLed H L (Zx.of s0) s.heap a = some o := fun a hm => by
  obtain ⟨o, ho⟩ := V.there a hm
  exact ⟨o, full_get ho (F.out a hm).1 (F.out a hm).2 rfl⟩
theorem Fx.wld (F : Fx K w mg mb D P H L) (I : In H L m N (Zx.of s0) s) (V : Vr K w D st s.heap) : Wld K w mg mb D P st s := by
  have k : ∀ b o, H.get? b = some o → (hideAll s.heap D.W).get? b = some o := fun b o e => hideAll_get _ (I.fr.keep b o e) fun hm => by
    rw [(F.out b hm).2] at e; cases e
  exact ⟨F.glo.keeps k, F.bm.keeps k, F.cn.keeps k, V⟩
/-- entering -/
theorem Wld.enter (X : Wld K w mg mb D P st s) (I : In (hideAll s.heap D.W) s.heap.objs.size m (ledW D s.heap) (Zx.of s) s') : Fx K w mg mb D P (hideAll s.heap D.W) s.heap.objs.size ∧ Vr K w D st s'.heap := by
  refine ⟨⟨X.glo, X.bm, X.cn, fun a hm => ⟨?_, hideAll_none _ hm⟩⟩, ?_⟩
  · obtain ⟨o, ho⟩ := X.vr.there a hm
    exact Nat.ne_of_lt (Heap.lt_size ho)
  · refine X.vr.move (X := []) (fun b o _ e => ?_) (fun x hx => (nomatch hx))
    by_cases hb : b ∈ D.W
    · exact (I.led b o ((ledW_in hb).trans e)).1
    · exact I.fr.keep b o (hideAll_get _ e hb)
/-- after pure steps -/
theorem Fx.step (F : Fx K w mg mb D P H L) (V : Vr K w D st s.heap) (I : In H L m (fullLed H L (Zx.of s0) s.heap) (Zx.of s0) s) (J : In H L m' N' (Zx.of s0) s') (hN : Led.Le (fullLed H L (Zx.of s0) s.heap) N') :
    In H L m' (fullLed H L (Zx.of s0) s'.heap) (Zx.of s0) s' ∧ Kp [L] s s' ∧ Vr K w D st s'.heap := by
  obtain ⟨I', k⟩ := I.stepped J [] fun a o _ e => hN a o e
  refine ⟨I', k, V.move k fun x hx => ?_⟩
  rw [List.mem_singleton] at hx
  subst hx
  refine ⟨fun hm => (F.out _ hm).1 rfl, fun o e => ?_⟩
  obtain ⟨o', es, ep, h1, h2⟩ := I.isNs
  rw [e] at h1; cases h1
  exact mov_dict h2
/-- after a step that changes a list x of the frame's own -/
theorem Fx.stepX (F : Fx K w mg mb D P H L) (V : Vr K w D st s.heap) (I : In H L m (fullLed H L (Zx.of s0) s.heap) (Zx.of s0) s) (J : In H L m' N' (Zx.of s0) s') {x : Addr} {o : Obj} (hx : s.heap.get? x = some o) (ho : Mov o) (hxW : x ∉ D.W) (hN : ∀ a o, a ≠ x → fullLed H L (Zx.of s0) s.heap a = some o → N' a = some o) :
    In H L m' (fullLed H L (Zx.of s0) s'.heap) (Zx.of s0) s' ∧ Kp [L, x] s s' ∧ Vr K w D st s'.heap := by
  obtain ⟨I', k⟩ := I.stepped J [x] fun a o hne e => hN a o (fun q => hne (q ▸ .head _)) e
  refine ⟨I', k, V.move k fun y hy => ?_⟩
  rcases List.mem_cons.mp hy with rfl | hy
  · refine ⟨fun hm => (F.out _ hm).1 rfl, fun o e => ?_⟩
    obtain ⟨o', es, ep, h1, h2⟩ := I.isNs
    rw [e] at h1; cases h1
    exact mov_dict h2
  · rw [List.mem_singleton] at hy
    subst hy
    exact ⟨hxW, fun o' e => by rw [hx] at e; cases e; exact ho⟩
end
/-- the map that a frame walks over, its list at i -/
structure Lp (K : Frag) (D : Ad) (u : PySem.Str) (tu : Tok) (mp T it fi ci cT lst : Addr) (i : Nat) (h : Heap) : Prop where
  mp : h.get? mp = some (mapObj T (.ref fi))
  T : h.get? T = some (tup1 it)
  it : h.IsListIter it lst i
  fn : FnAt h qI fi ci [(Str.ofString "text", cT), (Str.ofString "log", D.cLog)] (innerAt K)
  cT : h.IsCell cT (some (.str u tu))
/-- neither a dict nor a list -/
noncomputable def Stays (o : Obj) : Prop := (∀ es n, o.data ≠ .dict es n) ∧ (∀ vs n, o ≠ listOf vs n)
theorem stays_fields {o : Obj} {vs : Array Value} (h : o.data = .fields vs) : Stays o := ⟨(fun es n e => by rw [h] at e; cases e), fun vs n e => by subst e; cases h⟩
theorem stays_tup {vs : Array Value} : Stays (tupleOf vs) := ⟨(fun es n e => by cases e), fun us n e => ty_ne (by decide) (congrArg Obj.cls e)⟩
theorem stays_func {o : Obj} {f : FuncData} (h : o.data = .func f) : Stays o := ⟨(fun es n e => by rw [h] at e; cases e), fun vs n e => by subst e; cases h⟩
theorem stays_cell {o : Obj} {v : Option Value} (h : o.data = .cell v) : Stays o := ⟨(fun es n e => by rw [h] at e; cases e), fun vs n e => by subst e; cases h⟩
theorem Lp.move {K : Frag} {D : Ad} {u : PySem.Str} {tu : Tok} {mp T it fi ci cT lst : Addr} {i : Nat} {h h' : Heap} (p : Lp K D u tu mp T it fi ci cT lst i h) (k : ∀ a o, h.get? a = some o → Stays o → h'.get? a = some o) : Lp K D u tu mp T it fi ci cT lst i h' := by
  obtain ⟨h1, h2, ⟨o, h3, h4, h5⟩, ⟨a, b, c, d, e, f, h6, h7, c', o', vs, t, h8, h9, h10, h11⟩, ⟨o2, h12, h13⟩⟩ := p
  exact ⟨k _ _ h1 (stays_fields rfl), k _ _ h2 stays_tup, ⟨o, k _ _ h3 (stays_fields h5), h4, h5⟩, ⟨a, b, c, d, e, f, h6, k _ _ h7 (stays_func rfl), c', o', vs, t, h8, k _ _ h9 (stays_fields h10), h10, h11⟩, ⟨o2, k _ _ h12 (stays_cell h13), h13⟩⟩
theorem Lp.keeps {K : Frag} {D : Ad} {u : PySem.Str} {tu : Tok} {mp T it fi ci cT lst : Addr} {i : Nat} {h h' : Heap} (p : Lp K D u tu mp T it fi ci cT lst i h) (k : ∀ a o, h.get? a = some o → h'.get? a = some o) : Lp K D u tu mp T it fi ci cT lst i h' := p.move fun a o e _ => k a o e
section
variable {D : Ad} {s s' : Shared} {L x : Addr}
theorem hide_stays {X : List Addr} (k : Kp X s s') (hX : ∀ x ∈ X, ∀ o, s.heap.get? x = some o → ¬ Stays o) : ∀ a o, (hideAll s.heap D.W).get? a = some o → Stays o → (hideAll s'.heap D.W).get? a = some o := fun a o e ho => by
  have hb : a ∉ D.W := fun q => by rw [hideAll_none _ q] at e; cases e
  exact hideAll_get _ (k a o (fun q => hX a q o (of_hideAll _ e) ho) (of_hideAll _ e)) hb
end
/-- how a call of _vformat ends that raises -/
noncomputable def VfRaise (K : Frag) (w : World) (D : Ad) (st : St) (outer : List Env) (s : Shared) (e : Value) (s' : Shared) : Prop :=
  ∃ H' a y, (∀ b o, (hideAll s.heap D.W).get? b = some o → H'.get? b = some o) ∧ Vr K w D st H' ∧ e = .ref a ∧ Fly H' outer a (.type "ValueError") [.str (Str.ofString "Max string recursion exceeded") y] s s'
theorem stepI_nil {en : PySem.Str} {dep : Int} {u : PySem.Str} {its : List It} {a0 : Ac} {i : Nat} {it : It} (h : its[i]? = some it) : (its.take (i + 1)).foldl (stepI en dep u) a0 = stepI en dep u ((its.take i).foldl (stepI en dep u) a0) it := by
  have hlt := (List.getElem?_eq_some_iff.mp h).1
  have he := (List.getElem?_eq_some_iff.mp h).2
  rw [List.take_succ_eq_append_getElem hlt, List.foldl_append, he]
  rfl
theorem fold_end {en : PySem.Str} {dep : Int} {u : PySem.Str} {its : List It} {a0 : Ac} {i : Nat} (h : ((its.take i).foldl (stepI en dep u) a0).live = false) : its.foldl (stepI en dep u) a0 = (its.take i).foldl (stepI en dep u) a0 := by
  conv => lhs; rw [← List.take_append_drop i its, List.foldl_append]
  exact fold_dead en dep u _ _ h
/-- a place in a turn of the loop -/
structure BS (K : Frag) (w : World) (D : Ad) (st : St) (u : PySem.Str) (H : Heap) (L : Addr) (s0 : Shared) (aR mp T it fi ci cT lst : Addr) (tu : Tok) (i : Nat) (evs : List Ev) (out : PySem.Str) (b : Nat) (m : PySem.Str → Option Value) (s : Shared) : Prop where
  I : In H L m (fullLed H L (Zx.of s0) s.heap) (Zx.of s0) s
  V : Vr K w D (advS st evs) s.heap
  p : Lp K D u tu mp T it fi ci cT lst i (hideAll s.heap D.W)
  res : ∃ rs k ys, s.heap.get? aR = some (listOf rs.toArray k) ∧ TxtsAre rs ys ∧ catS ys = out ∧ rs.length ≤ b
structure AR (D : Ad) (H : Heap) (L aR : Addr) : Prop where
  L : aR ≠ L
  H : H.get? aR = none
  W : aR ∉ D.W
section
variable {K : Frag} {w : World} {mg mb : PySem.Str → Option Value} {D : Ad} {P : List (PySem.Str × List Pc)} {st : St} {s s' s0 : Shared} {H : Heap} {L : Addr} {m m' : PySem.Str → Option Value} {N' : Led} {u : PySem.Str} {aR mp T it fi ci cT lst : Addr} {tu : Tok} {i b : Nat} {evs evs' : List Ev} {out y : PySem.Str}
theorem BS.step (B : BS K w D st u H L s0 aR mp T it fi ci cT lst tu i evs out b m s) (F : Fx K w mg mb D P H L) (hR : AR D H L aR) (J : In H L m' N' (Zx.of s0) s') (hle : Led.Le (fullLed H L (Zx.of s0) s.heap) N') : BS K w D st u H L s0 aR mp T it fi ci cT lst tu i evs out b m' s' := by
  obtain ⟨I, V, p, rs, k, ys, r1, r2⟩ := B
  obtain ⟨I', k', V'⟩ := F.step V I J hle
  refine ⟨I', V', p.move (hide_stays k' fun x hx o e ho => ?_), rs, k, ys, k' _ _ (fun q => hR.L (List.mem_singleton.mp q)) r1, r2⟩
  rw [List.mem_singleton] at hx
  subst hx
  obtain ⟨o', es, ep, h1, h2⟩ := I.isNs
  rw [e] at h1; cases h1
  exact ho.1 _ _ h2
theorem BS.called (B : BS K w D st u H L s0 aR mp T it fi ci cT lst tu i evs out b m s) (F : Fx K w mg mb D P H L) (hR : AR D H L aR) (k : Gk (hideAll s.heap D.W) s s') (V' : Vr K w D (advS st evs') s'.heap) : BS K w D st u H L s0 aR mp T it fi ci cT lst tu i evs' out b m s' := by
  obtain ⟨I, V, p, rs, n, ys, r1, r2⟩ := B
  exact ⟨I.called (F.hasW V) k, V', p.keeps (hide_mono fun b o hb e => k.kp b o hb e), rs, n, ys, k.kp _ _ hR.W r1, r2⟩
theorem BS.append {rs : List Value} {k k' : Nat} {ys : List PySem.Str} {t : Tok} (B : BS K w D st u H L s0 aR mp T it fi ci cT lst tu i evs out b m s) (F : Fx K w mg mb D P H L) (hR : AR D H L aR) (r1 : s.heap.get? aR = some (listOf rs.toArray k)) (r2 : TxtsAre rs ys) (r3 : catS ys = out) (r4 : rs.length ≤ b)
    (J : In H L m ((fullLed H L (Zx.of s0) s.heap).put aR (listOf (rs ++ [Value.str y t]).toArray k')) (Zx.of s0) s') : BS K w D st u H L s0 aR mp T it fi ci cT lst tu i evs (out ++ y) (b + 1) m s' := by
  obtain ⟨I, V, p, _⟩ := B
  obtain ⟨I', q, V'⟩ := F.stepX V I J r1 mov_list hR.W fun a o hne e => by rw [Led.put_ne hne]; exact e
  refine ⟨I', V', p.move (hide_stays q fun x hx o e ho => ?_), rs ++ [Value.str y t], k', ys ++ [y], (J.led _ _ Led.put_same).1, txts_snoc r2, by rw [catS_snoc, r3], by rw [List.length_append]; exact Nat.succ_le_succ r4⟩
  rcases List.mem_cons.mp hx with rfl | hx
  · obtain ⟨o', es, ep, h1, h2⟩ := I.isNs
    rw [e] at h1; cases h1
    exact ho.1 _ _ h2
  · rw [List.mem_singleton] at hx
    subst hx
    rw [r1] at e; cases e
    exact ho.2 _ _ rfl
end
section
variable {K : Frag} {w : World} {mg mb : PySem.Str → Option Value} {D : Ad} {P : List (PySem.Str × List Pc)} {st st' : St} {s s' s0 : Shared} {H : Heap} {L : Addr} {m m' : PySem.Str → Option Value} {N' : Led} {u : PySem.Str} {aR mp T it fi ci cT lst : Addr} {tu : Tok} {i b : Nat} {evs evs' : List Ev} {out y n : PySem.Str}
theorem BS.calledS (B : BS K w D st u H L s0 aR mp T it fi ci cT lst tu i evs out b m s) (F : Fx K w mg mb D P H L) (hR : AR D H L aR) (k : Gk (hideAll s.heap D.W) s s') (V' : Vr K w D (advS st' evs') s'.heap) : BS K w D st' u H L s0 aR mp T it fi ci cT lst tu i evs' out b m s' := by
  obtain ⟨I, V, p, rs, n, ys, r1, r2⟩ := B
  exact ⟨I.called (F.hasW V) k, V', p.keeps (hide_mono fun b o hb e => k.kp b o hb e), rs, n, ys, k.kp _ _ hR.W r1, r2⟩
theorem BS.added (hD : Apart D) (F : Fx K w mg mb D P H L) (hR : AR D H L aR) (B : BS K w D { advS st evs with log := (advS st evs).log ++ [.get n] } u H L s0 aR mp T it fi ci cT lst tu i [] out b m s) {ou' : Obj}
    (J : In H L m ((fullLed H L (Zx.of s0) s.heap).put D.used ou') (Zx.of s0) s') (hS : s'.heap.SetOf (strKind PySem.Challenge.rw_kp0026_05.prog w) D.used (addK ⟨(advS st evs).S, (advS st evs).n⟩ (Str.ofString "k" ++ n)).S (addK ⟨(advS st evs).S, (advS st evs).n⟩ (Str.ofString "k" ++ n)).n) :
    BS K w D st u H L s0 aR mp T it fi ci cT lst tu i (evs ++ [.get n]) out b m s' := by
  obtain ⟨I, V, p, rs, k, ys, r1, r2⟩ := B
  rw [advS_nil] at V
  obtain ⟨I', q⟩ := I.stepped J [D.used] fun a o hne e => by rw [Led.put_ne (show a ≠ D.used from fun h => hne (List.mem_singleton.mpr h))]; exact e
  obtain ⟨oL, esL, epL, hL1, hL2⟩ := I.isNs
  have keep : ∀ a o, a ≠ L → a ≠ D.used → s.heap.get? a = some o → s'.heap.get? a = some o := fun a o h1 h2 e => q a o (fun hm => by
    rcases List.mem_cons.mp hm with h | h
    · exact h1 h
    · exact h2 (List.mem_singleton.mp h)) e
  have notL : ∀ a o, s.heap.get? a = some o → (∀ es ep, o.data ≠ .dict es ep) → a ≠ L := fun a o e hn h => by
    rw [h, hL1] at e; cases e; exact hn _ _ hL2
  obtain ⟨⟨vs, n', h1, h2⟩, ⟨o, es, ep, tt, h3, h4, h5, r3⟩, ps, h6, h7⟩ := V
  have notU : ∀ a o, s.heap.get? a = some o → (∀ x y z, o.data ≠ .set x y z) → a ≠ D.used := fun a o' e hn h => by
    rw [h, h3] at e; cases e; exact hn _ _ _ h5
  refine ⟨I', ⟨⟨vs, n', keep _ _ (notL _ _ h1 (by intro es ep q; cases q)) hD.lu h1, ?_⟩, ?_, ps, keep _ _ (notL _ _ h6 (by intro es ep q; cases q)) hD.ut.symm h6, h7.mono fun c o us e _ hd => keep _ _ (notL _ _ e (by rw [hd]; intro es ep q; cases q)) (notU _ _ e (by rw [hd]; intro x y z q; cases q)) e⟩, p.move fun a o e ho => ?_, rs, k, ys, keep _ _ hR.L (fun h => hR.W (h ▸ .tail _ (.head _))) r1, r2⟩
  · rw [advS_app]
    exact RowsAre.mono (fun a vs e => keep _ _ (notL _ _ e (by intro es ep q; cases q)) (notU _ _ e (by intro x y z q; cases q)) e) h2
  · rw [advS_app]
    exact hS
  · have hb : a ∉ D.W := fun q => by rw [hideAll_none _ q] at e; cases e
    exact hideAll_get _ (keep a o (notL a o (of_hideAll _ e) (fun es ep h => ho.1 _ _ h)) (fun h => hb (h ▸ .tail _ (.head _))) (of_hideAll _ e)) hb
end
-- part C6
section
variable {w : World} {mg mb : PySem.Str → Option Value} {D : Ad} {P : List (PySem.Str × List Pc)} {A : Around} {E : Value → Shared → Prop} {H : Heap} {L : Addr} {m : PySem.Str → Option Value} {N : Led} {z : Zx} {s : Shared} {pl : Sem Bool} {Q : Value × List Value → Shared → Prop}
theorem Fx.parse (F : Fx (hd.heap_1 w.params) w mg mb D P H L) (I : In H L m N z s) (h : ∀ s', In H L m N z s' → Q (.ref D.fp, []) s') : wpAny (model PySem.Challenge.rw_kp0026_05.prog w) A (getMethod (.ref D.xf) (Str.ofString "parse") pl) Q E s := by
  obtain ⟨es, n, h1, h2, h3, h4, h5, h6⟩ := F.cn.dxf
  exact r_methodOwn F.glo I F.cn.xf h1 (by k_is) (by k_is) (by k_is) (by k_is) (by k_is) (by k_is) h2 rfl h
theorem Fx.getf (F : Fx (hd.heap_1 w.params) w mg mb D P H L) (I : In H L m N z s) (h : ∀ s', In H L m N z s' → Q (.ref D.fg, []) s') : wpAny (model PySem.Challenge.rw_kp0026_05.prog w) A (getMethod (.ref D.xf) (Str.ofString "get_field") pl) Q E s := by
  obtain ⟨es, n, h1, h2, h3, h4, h5, h6⟩ := F.cn.dxf
  exact r_methodOwn F.glo I F.cn.xf h1 (by k_is) (by k_is) (by k_is) (by k_is) (by k_is) (by k_is) h3 rfl h
theorem Fx.conv (F : Fx (hd.heap_1 w.params) w mg mb D P H L) (I : In H L m N z s) (h : ∀ s', In H L m N z s' → Q (.ref D.fc, []) s') : wpAny (model PySem.Challenge.rw_kp0026_05.prog w) A (getMethod (.ref D.xf) (Str.ofString "convert_field") pl) Q E s := by
  obtain ⟨es, n, h1, h2, h3, h4, h5, h6⟩ := F.cn.dxf
  exact r_methodOwn F.glo I F.cn.xf h1 (by k_is) (by k_is) (by k_is) (by k_is) (by k_is) (by k_is) h4 rfl h
theorem Fx.fmt (F : Fx (hd.heap_1 w.params) w mg mb D P H L) (I : In H L m N z s) (h : ∀ s', In H L m N z s' → Q (.ref D.ff, []) s') : wpAny (model PySem.Challenge.rw_kp0026_05.prog w) A (getMethod (.ref D.xf) (Str.ofString "format_field") pl) Q E s := by
  obtain ⟨es, n, h1, h2, h3, h4, h5, h6⟩ := F.cn.dxf
  exact r_methodOwn F.glo I F.cn.xf h1 (by k_is) (by k_is) (by k_is) (by k_is) (by k_is) (by k_is) h5 rfl h
theorem Fx.vfm (F : Fx (hd.heap_1 w.params) w mg mb D P H L) (I : In H L m N z s) (h : Q (.ref 57, [.ref D.xf]) s) : wpAny (model PySem.Challenge.rw_kp0026_05.prog w) A (getMethod (.ref D.xf) (Str.ofString "_vformat") pl) Q E s := by
  obtain ⟨es, n, h1, h2, h3, h4, h5, h6⟩ := F.cn.dxf
  exact method_inst I.fr F.glo.X ⟨I.fr.keep _ _ F.cn.xf, rfl, rfl, I.fr.keep _ _ h1⟩ (by k_is) (by k_is) (by k_is) h6 h
end
-- MACROS
local macro_rules | `(tactic| walk_at "ext") => `(tactic| first
  | ((with_reducible show wpAny _ _ (compareOp CmpOp.IsNot _ _) _ _ _); first | (with_reducible refine wpAny_isNot_self (by with_unfolding_all rfl) ?_) | ((with_reducible refine wpAny_isNot_other (by with_unfolding_all rfl) ?hne ?_); (case hne => (intro h; cases h))))
  | ((with_reducible show wpAny _ _ (truthy Value.none) _ _ _); (with_reducible refine truthy_none ?_))
  | ((with_reducible show wpAny _ _ (call (Value.type "str") [Value.int _ _]) _ _ _); (refine r_strNat (by assumption) (by omega) ?_); intro _ _ _)
  | ((with_reducible refine r_iaddI (by assumption) ?_); intro _ _ _)
  | ((with_reducible refine GM.isdigit ?_))
  | ((with_reducible show wpAny _ _ (callWith _ (Value.builtin "str.isdigit") _ _ _) _ _ _); (with_reducible refine PyProof.Rows.callWith_method0 ?_))
  | ((with_reducible show wpAny _ _ (getMethod (Value.ref _) (PySem.Str.ofString "parse") _) _ _ _); (with_reducible refine Fx.parse (by assumption) (by assumption) ?_); intro _ _)
  | ((with_reducible show wpAny _ _ (getMethod (Value.ref _) (PySem.Str.ofString "get_field") _) _ _ _); (with_reducible refine Fx.getf (by assumption) (by assumption) ?_); intro _ _)
  | ((with_reducible show wpAny _ _ (getMethod (Value.ref _) (PySem.Str.ofString "convert_field") _) _ _ _); (with_reducible refine Fx.conv (by assumption) (by assumption) ?_); intro _ _)
  | ((with_reducible show wpAny _ _ (getMethod (Value.ref _) (PySem.Str.ofString "format_field") _) _ _ _); (with_reducible refine Fx.fmt (by assumption) (by assumption) ?_); intro _ _)
  | ((with_reducible show wpAny _ _ (getMethod (Value.ref _) (PySem.Str.ofString "_vformat") _) _ _ _); (with_reducible refine Fx.vfm (by assumption) (by assumption) ?_))
  | ((with_reducible show wpAny _ _ (callWith _ (Value.ref _) [] _ []) _ _ _); (with_reducible refine r_cwh (by assumption) rfl (wpAny_items_cons ?_ (by with_unfolding_all rfl)) (by with_unfolding_all rfl)))
  | ((with_reducible show wpAny _ _ (call (Value.ref _) (_ ++ _)) _ _ _); dsimp only [List.cons_append, List.nil_append]))
-- END MACROS
noncomputable def foldI (en : PySem.Str) (dep : Int) (u : PySem.Str) (its : List It) (free i : Nat) : Ac := (its.take i).foldl (stepI en dep u) ⟨[], Str.ofString "", free, true⟩
/-- where the loop of a frame stands -/
structure LI (K : Frag) (w : World) (D : Ad) (st : St) (en : PySem.Str) (dep : Int) (u : PySem.Str) (free : Nat) (its : List It) (H : Heap) (L : Addr) (s0 : Shared) (aR mp T it fi ci cT lst : Addr) (tu td : Tok) (i : Nat) (m : PySem.Str → Option Value) (s : Shared) : Prop where
  live : (foldI en dep u its free i).live = true
  I : In H L m (fullLed H L (Zx.of s0) s.heap) (Zx.of s0) s
  V : Vr K w D (advS st (.parse u :: (foldI en dep u its free i).ev)) s.heap
  p : Lp K D u tu mp T it fi ci cT lst i (hideAll s.heap D.W)
  res : ∃ rs k ys, s.heap.get? aR = some (listOf rs.toArray k) ∧ TxtsAre rs ys ∧ catS ys = (foldI en dep u its free i).out ∧ rs.length ≤ 2 * i
  mS : m (Str.ofString "self") = some (.ref D.xf)
  mG : m (Str.ofString "args") = some (.ref D.args)
  mK : m (Str.ofString "kwargs") = some (.ref D.named)
  mU : m (Str.ofString "used_args") = some (.ref D.used)
  mD : m (Str.ofString "recursion_depth") = some (.int dep td)
  mR : m (Str.ofString "result") = some (.ref aR)
  mA : ∃ t, m (Str.ofString "auto_arg_index") = some (.int ((foldI en dep u its free i).free : Int) t)
  bF : (foldI en dep u its free i).free * 200 + wIs (its.drop i) ≤ 20000
  bL : (foldI en dep u its free i).ev.length + wIs (its.drop i) ≤ wIs its
  bO : (foldI en dep u its free i).out.length + wIs (its.drop i) ≤ wIs its
  bG : gN (foldI en dep u its free i).ev * 200 + wIs (its.drop i) ≤ wIs its
theorem advS_g (st : St) (l : List Ev) : (advS st l).n ≤ st.n + gN l := keysK_g l _
theorem name_auto {d : Nd} (h : d.name = Str.ofString "") : d.auto = true := by
  cases e : d.auto with
  | true => rfl
  | false =>
    unfold Nd.name at h
    rw [e] at h
    have h2 := congrArg PySem.Str.length h
    rw [if_neg (by decide), PySem.Str.length_append, L_n, L_nil] at h2
    omega
theorem name_named {d : Nd} (h : d.name ≠ Str.ofString "") : d.auto = false := by
  cases e : d.auto with
  | false => rfl
  | true => exact absurd (by unfold Nd.name; rw [e]; rfl) h
theorem digit_n (x : PySem.Str) : Txt.isdigit (Str.ofString "n" ++ x) = false := by
  have e : (Str.ofString "n").cps = #[110] := by decide +kernel
  have e2 : Unicode.isDigit 110 = false := by decide +kernel
  show (_ && Array.all ((Str.ofString "n").cps ++ x.cps) Unicode.isDigit) = false
  rw [e, Array.all_append]
  simp [e2]
theorem stepI_mid {en : PySem.Str} {dep : Int} {u : PySem.Str} {a : Ac} (h : a.live = true) : stepI en dep u a .mid = ⟨a.ev ++ [.piece u], a.out ++ Str.ofString "mid", a.free, true⟩ := by
  obtain ⟨ev, out, free, live⟩ := a; cases h; rfl
theorem stepI_fin {en : PySem.Str} {dep : Int} {u : PySem.Str} {a : Ac} (h : a.live = true) : stepI en dep u a .fin = ⟨a.ev ++ [.piece u], a.out ++ en, a.free, true⟩ := by
  obtain ⟨ev, out, free, live⟩ := a; cases h; rfl
theorem Rm.in1 {A : Around} {d u d' u' : Nat} (R : Rm A d u) (hd : d' ≤ d := by omega) (hu : u' + 1 ≤ u := by omega) : Rm A.in1 d' u' := ⟨R.handled, (by have := R.depth; show A.depth + d' < _; omega), (by have := R.units; show A.units + 1 + u' < _; omega)⟩
/-- the arguments of a call of _vformat, in the two ways it is called -/
noncomputable def VfArgs (D : Ad) (u : PySem.Str) (tu : Tok) (dep : Int) (td : Tok) (free : Nat) (tf : Tok) (pos : List Value) (kw : List (PySem.Str × Value)) : Prop :=
  pos = [.ref D.xf, .str u tu, .ref D.args, .ref D.named, .ref D.used, .int dep td] ∧ ((kw = [(Str.ofString "auto_arg_index", .int (free : Int) tf)]) ∨ (kw = [] ∧ free = 0 ∧ tf = 238))
set_option maxRecDepth 100000 in
set_option maxHeartbeats 8000000 in
theorem vf_spec {w : World} {mg mb : PySem.Str → Option Value} {D : Ad} {P : List (PySem.Str × List Pc)} {en : PySem.Str} (hen : en.length ≤ 1) (hD : Apart D) : ∀ (n : Nat) {A : Around} {outer : List Env} {st : St} {s : Shared} (_ : Wld (hd.heap_1 w.params) w mg mb D P st s) (_ : Rm A (n + 3) (3 * n + 40)) (_ : Stk A outer (hideAll s.heap D.W))
    (u : PySem.Str) (tu : Tok) (dep : Int) (td : Tok) (free : Nat) (tf : Tok) (its : List It) (pos : List Value) (kw : List (PySem.Str × Value)) (_ : VfArgs D u tu dep td free tf pos kw) (_ : P.lookup u = some (its.map (It.pc en)))
    (_ : ∀ d kids, It.fld d kids ∈ its → EncT en P (.node d kids) ∧ OkT (.node d kids) ∧ hgF kids < n) (_ : free * 200 + wIs its ≤ 20000) (_ : st.log.length + wIs its + 1 ≤ 60000) (_ : st.n * 200 + wIs its ≤ 700000),
    wpAny (model PySem.Challenge.rw_kp0026_05.prog w) A (call (.ref 57) pos kw)
      (fun v s' => (∃ txt f a t1 t2, (frameR en dep u its free).2 = some (txt, f) ∧ v = .ref a ∧ s'.heap.get? a = some (tupleOf #[.str txt t1, .int (f : Int) t2]) ∧ Vr (hd.heap_1 w.params) w D (advS st (frameR en dep u its free).1) s'.heap) ∧ Gk (hideAll s.heap D.W) s s')
      (fun e s' => (frameR en dep u its free).2 = none ∧ VfRaise (hd.heap_1 w.params) w D (advS st (frameR en dep u its free).1) outer s e s') s := by
  intro n
  induction n using Nat.strongRecOn with
  | _ n ih =>
  intro A outer st s X R K u tu dep td free tf its pos kw hargs hu hits hb1 hb2 hb3
  have G := X.glo
  refine' wpAny_mono (call_fnG (N₀ := ledW D s.heap) (H := hideAll s.heap D.W) (binds := [(Str.ofString "self", .ref D.xf), (Str.ofString "format_string", .str u tu), (Str.ofString "args", .ref D.args), (Str.ofString "kwargs", .ref D.named), (Str.ofString "used_args", .ref D.used), (Str.ofString "recursion_depth", .int dep td), (Str.ofString "auto_arg_index", .int (free : Int) tf)])
    (fun v s' => ∃ txt f a t1 t2, (frameR en dep u its free).2 = some (txt, f) ∧ v = .ref a ∧ s'.heap.get? a = some (tupleOf #[.str txt t1, .int (f : Int) t2]) ∧ Vr (hd.heap_1 w.params) w D (advS st (frameR en dep u its free).1) s'.heap)
    (fun e s' => (frameR en dep u its free).2 = none ∧ VfRaise (hd.heap_1 w.params) w D (advS st (frameR en dep u its free).1) outer s e s')
    (fun b o e => of_hideAll _ e) (Nat.le_of_eq (hideAll_size _ _)) ledW_ok G (R.less (d' := 0) (u' := 0)).depth ?ho ?hcd ?hb ?hc ?hl ?c1 ?c2 ?c3 ?_) (fun _ _ x => x) (fun _ _ x => x)
  case ho => k_is
  case hcd => k_is
  case hb =>
    obtain ⟨rfl, rfl | ⟨rfl, rfl, rfl⟩⟩ := hargs
    · exact binds_K (G.X.keeps fun b o e => of_hideAll _ e) rfl (by k_is) rfl rfl rfl
    · exact binds_K (G.X.keeps fun b o e => of_hideAll _ e) rfl (by k_is) rfl rfl rfl
  case hc => decide
  case hl => exact locs rfl
  case c1 => rfl
  case c2 => rfl
  case c3 => rfl
  intro s₁ I
  obtain ⟨F, V⟩ := X.enter I
  have I0 := I.full.1
  clear I hargs
  refine letQE ?_
  intro QQ EE
  walk_at "gs"
  refine if_dec (fun hneg => ?_) (fun hpos => ?_)
  · refine x_cons (Raise_madeB PySem.F.excCall_ValueError PySem.F.excRaise_ValueError R.handled ?_)
    refine r_builtin F.glo (by assumption) (by k_is) boot_ValueError ⟨rfl, ?_⟩
    refine wpAny_items_cons ?_ (by with_unfolding_all rfl)
    walk_at "gs"
    rename_i t9 s9 I9
    obtain ⟨I10, k10, V10⟩ := F.step V I0 I9 (Led.Le.refl _)
    refine ⟨(by show 1 ≤ 16777216; omega), fun h' e hm => ?_⟩
    refine leave_madeG K I10 (Heap.MadeExc.of hm) (fun s' hs => ?_)
    have ef : frameR en dep u its free = ([], none) := by unfold frameR; rw [if_pos hneg]
    rw [ef, advS_nil]
    refine ⟨rfl, _, e, t9, ?_, ?_, rfl, hs⟩
    · intro b o eb
      refine hideAll_get _ (I10.fr.keep b o eb) fun hm => ?_
      rw [List.mem_singleton] at hm
      subst hm
      exact absurd (Nat.lt_of_lt_of_le (Heap.lt_size eb) I10.fr.above) (Nat.lt_irrefl _)
    · refine V10.move (s' := { s9 with heap := hideAll s9.heap [s.heap.objs.size] }) (X := [s.heap.objs.size]) (fun b o hb e => hideAll_get _ e hb) fun x hx => ?_
      rw [List.mem_singleton] at hx
      subst hx
      refine ⟨fun hm => (F.out _ hm).1 rfl, fun o e => ?_⟩
      obtain ⟨o', es, ep, h1, h2⟩ := I10.isNs
      rw [e] at h1; cases h1
      exact mov_dict h2
  obtain ⟨q1, q2, q3, q4, q5, q6, _, hfp, _⟩ := F.cn.fp
  obtain ⟨g1, g2, g3, g4, g5, g6, _, hfg, _⟩ := F.cn.fg
  obtain ⟨c1, c2, c3, c4, c5, c6, _, hfc, _⟩ := F.cn.fc
  obtain ⟨f1, f2, f3, f4, f5, f6, _, hff, _⟩ := F.cn.ff
  walk_at "gs"
  rename_i aR s2 hnR _ I2 s3 I3 _
  obtain ⟨I4, k4, V4⟩ := F.step V I0 I3 (Led.le_put hnR)
  have hR4 : s3.heap.get? aR = some (listOf [].toArray 0) := (I3.led _ _ Led.put_same).1
  have hRn := (I3.led _ _ Led.put_same).2
  have hRW : aR ∉ D.W := fun hm => by
    obtain ⟨o, ho⟩ := F.hasW (s0 := s) V _ hm
    rw [hnR] at ho; cases ho
  clear I0 I2 I3 hnR k4 V
  refine x_for (wpAny_For ?_ (by intro _; with_unfolding_all rfl))
  walk_at "gs"
  rename_i s5 I5
  obtain ⟨I6, k6, V6⟩ := F.step V4 I4 I5 (Led.Le.refl _)
  have R1 : ∀ {env : Env}, Rm (A.deeper env) (n + 2) (3 * n + 37) := fun {env} => Rm.deeper R
  obtain ⟨fm, hm, hpl⟩ := F.cn.pcs
  obtain ⟨lst, vs, kl, hfu, hlst, hrows⟩ := hpl u _ hu
  have kH : ∀ b o, (hideAll s.heap D.W).get? b = some o → (hideAll s5.heap D.W).get? b = some o := fun b o e => hideAll_get _ (I6.fr.keep b o e) fun hm => by rw [hideAll_none _ hm] at e; cases e
  have hfits : ∀ {l : List Ev} {k : Nat}, l.length ≤ k → k ≤ wIs its + 1 → (advS st l).log.length ≤ 100000 := fun h1 h2 => by rw [advS_len]; omega
  refine wpAny_mono (parse_spec (F.wld I6 V6) R1.less hD (by omega) u tu (mapOf_at hm kH) hfu (kH _ _ hlst)) (fun v s7 x => ?_) (fun _ _ x => x.elim)
  obtain ⟨⟨⟨mp, rfl, hmp⟩, V7⟩, k7⟩ := x
  have I7 := I6.called (F.hasW V6) k7
  obtain ⟨T, it, fi, ci, cT, t7, m1, m2, m3, m6, m7, n1, n2, n3⟩ := hmp.ex
  have nW : ∀ a, s5.heap.get? a = none → a ∉ D.W := fun a e hm => by
    obtain ⟨o, ho⟩ := V6.there a hm
    rw [e] at ho; cases ho
  have p7 : Lp (hd.heap_1 w.params) D u t7 mp T it fi ci cT lst 0 (hideAll s7.heap D.W) := ⟨hideAll_get _ m1 (nW _ n1), hideAll_get _ m2 (nW _ n2), ⟨_, hideAll_get _ m3 (nW _ n3), rfl, rfl⟩, m6, m7⟩
  have hR7 : s7.heap.get? aR = some (listOf [].toArray 0) := k7.kp _ _ hRW (k6 _ _ (fun q => hRn.1 (List.mem_singleton.mp q)) hR4)
  have hne : it ≠ s.heap.objs.size ∧ (hideAll s.heap D.W).get? it = none := by
    refine ⟨fun q => ?_, ?_⟩
    · obtain ⟨o, es, ep, h1, _⟩ := I6.isNs
      rw [← q, n3] at h1; cases h1
    · cases e : (hideAll s.heap D.W).get? it with
      | none => rfl
      | some o => have := I6.fr.keep _ _ e; rw [n3] at this; cases this
  refine pyIter_map m1 ?_
  have LI7 : LI (hd.heap_1 w.params) w D st en dep u free its (hideAll s.heap D.W) s.heap.objs.size s aR mp T it fi ci cT lst t7 td 0 _ s7 := {
    live := rfl
    I := I7
    V := V7
    p := p7
    res := ⟨[], 0, [], hR7, .nil, rfl, Nat.zero_le _⟩
    mS := by walk_at "look"
    mG := by walk_at "look"
    mK := by walk_at "look"
    mU := by walk_at "look"
    mD := by walk_at "look"
    mR := by walk_at "look"
    mA := ⟨tf, by walk_at "look"⟩
    bF := hb1
    bL := by show 0 + wIs its ≤ _; omega
    bO := by show (Str.ofString "").length + wIs its ≤ _; rw [L_nil]; omega
    bG := by show 0 * 200 + wIs its ≤ _; omega }
  clear I4 I5 I6 V4 V6 k6 k7 I7 V7 hmp m1 m2 m3 m6 m7 n1 n2 n3 nW p7 hR7 hR4
  refine codeAny_forLoop_any (fun k s' => ∃ i m, k = its.length - i ∧ i ≤ its.length ∧ LI (hd.heap_1 w.params) w D st en dep u free its (hideAll s.heap D.W) s.heap.objs.size s aR mp T it fi ci cT lst t7 td i m s') ?turn its.length ⟨0, _, rfl, Nat.zero_le _, LI7⟩
  clear LI7
  rintro k s8 ⟨i, m8, rfl, hi, LI8⟩
  obtain ⟨l1, I8, V8, p8, ⟨rs, kr, ys, r1, r2, r3, r4⟩, mS, mG, mK, mU, mD, mR, ⟨tA, mA⟩, bF, bL, bO, bG⟩ := LI8
  refine letQE ?_
  intro Q2 E2
  rcases Nat.lt_or_ge i its.length with hlt | hge
  · obtain ⟨itm, hitm⟩ : ∃ itm, its[i]? = some itm := ⟨_, List.getElem?_eq_getElem hlt⟩
    have hvl : vs.length = its.length := by rw [hrows.length, List.length_map, List.length_map]
    obtain ⟨x, hx⟩ : ∃ x, vs[i]? = some x := ⟨_, List.getElem?_eq_getElem (by omega)⟩
    obtain ⟨fl, hfl, hrow⟩ := All2.get hrows hx
    have hfl' : fl = pcR (itm.pc en) := by
      rw [List.getElem?_map, List.getElem?_map, hitm] at hfl
      exact (Option.some.inj hfl).symm
    subst hfl'
    obtain ⟨ax, us, rfl, hax, hus⟩ := hrow
    have hlen : its.length ≤ 4000 := by have := wIs_len its; omega
    have up : ∀ {a o}, (hideAll s8.heap D.W).get? a = some o → s8.heap.get? a = some o := fun e => of_hideAll _ e
    obtain ⟨oi, hoi, hic, hid⟩ := p8.it
    have hitW : it ∉ D.W := fun hm => by rw [hideAll_none _ hm] at hoi; cases hoi
    have hAR : AR D (hideAll s.heap D.W) s.heap.objs.size aR := ⟨hRn.1, hRn.2, hRW⟩
    have nit : ∀ {a o}, s8.heap.get? a = some o → o.data ≠ .fields #[.ref lst, .int i 0] → a ≠ it := fun {a o} e hne q => by
      rw [q, up hoi] at e; cases e; exact hne hid
    refine pyNext_map (up p8.mp) (up p8.T) ⟨oi, up hoi, hic, hid⟩ (xs := vs.toArray) ⟨_, I8.fr.keep _ _ hlst, rfl, _, rfl⟩ (by simpa using hx) (nit (up p8.mp) (by intro q; cases q)) fun h' hit' hs' => ?_
    obtain ⟨oi', hoi', hic', hid'⟩ := hit'
    have J9 := (I8.same (tk := s8.toks) (full_get (up hoi) hne.1 hne.2 rfl) hs' hoi').full.1
    have V9 : Vr (hd.heap_1 w.params) w D (advS st (Ev.parse u :: (foldI en dep u its free i).ev)) ({ s8 with heap := h' } : Shared).heap := V8.move (s' := { s8 with heap := h' }) (X := [it]) (fun b o hb e => (hs'.2 b (fun q => hb (q ▸ .head _))).trans e) fun x hx => by
      rw [List.mem_singleton] at hx
      subst hx
      refine ⟨hitW, fun o e => ?_⟩
      rw [up hoi] at e; cases e
      exact ⟨fun us e => ty_ne (by decide) (hic.symm.trans (congrArg Obj.cls e)), fun q => ty_ne (by decide) (hic.symm.trans q.1)⟩
    have mv : ∀ a o, (hideAll s8.heap D.W).get? a = some o → o.data ≠ .fields #[.ref lst, .int i 0] → (hideAll ({ s8 with heap := h' } : Shared).heap D.W).get? a = some o := fun a o e hne => by
      have hb : a ∉ D.W := fun q => by rw [hideAll_none _ q] at e; cases e
      exact hideAll_get _ ((hs'.2 a (nit (up e) hne)).trans (up e)) hb
    have p9 : Lp (hd.heap_1 w.params) D u t7 mp T it fi ci cT lst (i + 1) (hideAll ({ s8 with heap := h' } : Shared).heap D.W) := by
      obtain ⟨x1, x2, _, ⟨a, b, c, d, e, f, h6, h7, c', o', vs', t, h8, h9, h10, h11⟩, ⟨o2, h12, h13⟩⟩ := p8
      refine ⟨mv _ _ x1 (by intro q; cases q), mv _ _ x2 (by intro q; cases q), ⟨oi', hideAll_get _ hoi' hitW, hic', hid'⟩, ⟨a, b, c, d, e, f, h6, mv _ _ h7 (by intro q; cases q), c', o', vs', t, h8, mv _ _ h9 (fun q => ?_), h10, h11⟩, ⟨o2, mv _ _ h12 (by rw [h13]; intro q; cases q), h13⟩⟩
      rw [h10] at q
      injection q with q
      subst q
      cases h11
    have r9 : ({ s8 with heap := h' } : Shared).heap.get? aR = some (listOf rs.toArray kr) := (hs'.2 aR (nit r1 (by intro q; cases q))).trans r1
    have B9 : BS (hd.heap_1 w.params) w D st u (hideAll s.heap D.W) s.heap.objs.size s aR mp T it fi ci cT lst t7 (i + 1) (Ev.parse u :: (foldI en dep u its free i).ev) (foldI en dep u its free i).out (2 * i) m8 { s8 with heap := h' } := ⟨J9, V9, p9, rs, kr, ys, r9, r2, r3, r4⟩
    clear I8 V8 J9 V9 p9 r9 p8 mv nit hs' hoi' hic' hid' r1 r2 r3 r4 up hoi hic hid
    generalize ({ s8 with heap := h' } : Shared) = s9 at B9 ⊢
    refine wpAny_mono (inner_spec (F.wld B9.I B9.V) (R1.in1 (d' := 1) (u' := 10)) hD (hfits (k := wIs its + 1) (by simp only [List.length_cons]; omega) (Nat.le_refl _)) B9.p.fn B9.p.cT (.ref ax)) (fun v s10 y => ?_) (fun _ _ y => y.elim)
    obtain ⟨⟨rfl, V10⟩, k10⟩ := y
    have B10 := B9.called (evs' := (Ev.parse u :: (foldI en dep u its free i).ev) ++ [.piece u]) F hAR k10 (by rw [advS_app]; exact V10)
    clear B9 V10 k10
    refine letOwned_map (of_hideAll _ B10.p.mp) ?_
    obtain ⟨v1, v2, v3, v4, rfl, o1, o2, o3, o4⟩ : ∃ v1 v2 v3 v4, us = [v1, v2, v3, v4] ∧ OptIs v1 (itm.pc en).lit ∧ OptIs v2 (itm.pc en).name ∧ OptIs v3 (itm.pc en).shape ∧ OptIs v4 (itm.pc en).mark := by
      unfold pcR at hus
      cases hus with
      | cons a hus => cases hus with
        | cons b hus => cases hus with
          | cons c hus => cases hus with
            | cons d hus => cases hus; exact ⟨_, _, _, _, rfl, a, b, c, d⟩
    refine r_unpack4 B10.I R.handled (B10.I.fr.keep _ _ hax) ?_
    intro s11 I11 _
    have B11 := B10.step F hAR I11 (Led.Le.refl _)
    clear B10 I11
    refine wpAny_passesOwn PassesOwn.leaving ?_
    refine letQE ?_
    intro Q3 E3
    have hll : (litT (itm.pc en).lit).length ≤ 10 := by
      cases itm with
      | mid => show (Str.ofString "mid").length ≤ 10; rw [L_mid]; omega
      | fin => show en.length ≤ 10; omega
      | fld d kids =>
        have := (hits d kids (List.mem_of_getElem? hitm)).2.1
        rw [OkT] at this
        exact this.1.2.2
    refine x_cons (cut (fun f s' => f = .next ∧ BS (hd.heap_1 w.params) w D st u (hideAll s.heap D.W) s.heap.objs.size s aR mp T it fi ci cT lst t7 (i + 1) (Ev.parse u :: (foldI en dep u its free i).ev ++ [Ev.piece u]) ((foldI en dep u its free i).out ++ litT (itm.pc en).lit) (2 * i + 1) (upd (upd (upd (upd m8 (Str.ofString "literal_text") v1) (Str.ofString "field_name") v2) (Str.ofString "format_spec") v3) (Str.ofString "conversion") v4) s') ?lit ?rest)
    case lit =>
      refine wpAny_If ?_
      have I12 := B11.I
      cases hl : (itm.pc en).lit with
      | none =>
        rw [hl] at o1
        have e1 := o1.of_none
        subst e1
        refine letQ ?_
        intro Q4
        walk_at "gs"
        obtain ⟨a, b, c, rs, k, ys, r1, r2, r3, r4⟩ := B11
        exact ⟨rfl, a, b, c, rs, k, ys, r1, r2, by rw [r3]; exact (app_nil _).symm, by omega⟩
      | some x =>
        rw [hl] at o1 hll
        obtain ⟨t1, e1⟩ := o1.of_some
        subst e1
        refine letQ ?_
        intro Q4
        have hxl : x.length ≤ 10 := hll
        walk_at "gs"
        refine r_truthyS (by assumption) (by omega) ?_
        intro s12 I13
        have B12 := B11.step F hAR I13 (Led.Le.refl _)
        clear I12 I13 B11
        have I12 := B12.I
        obtain ⟨rs, k, ys, r1, r2, r3, r4⟩ := B12.res
        refine if_dec (fun hx0 => ?_) (fun hx0 => ?_)
        · have hf := full_get (h₀ := hideAll s.heap D.W) (L := s.heap.objs.size) (z := Zx.of s) r1 hRn.1 hRn.2 rfl
          refine x_cons (wpAny_Expr_any ?_ (by with_unfolding_all rfl) (by with_unfolding_all rfl))
          walk_at "gs"
          refine r_append I12 hf ?_ (by show _ ≤ 16777216; omega)
          intro s13 k13 I13
          walk_at "gs"
          exact ⟨rfl, by
            have B13 := B12.append F hAR r1 r2 r3 r4 I13
            obtain ⟨a, b, c, rs, k, ys, r1, r2, r3, r4⟩ := B13
            exact ⟨a, b, c, rs, k, ys, r1, r2, r3, by omega⟩⟩
        · walk_at "gs"
          have hx1 : x = Str.ofString "" := Classical.not_not.mp hx0
          obtain ⟨a, b, c, _⟩ := B12
          exact ⟨rfl, a, b, c, rs, k, ys, r1, r2, by rw [r3, hx1]; exact (app_nil _).symm, by omega⟩
    rintro _ s12 ⟨rfl, B12⟩
    refine then_next ?_
    clear B11
    have hfold : foldI en dep u its free (i + 1) = stepI en dep u (foldI en dep u its free i) itm := stepI_nil hitm
    have hw := wIs_get hitm
    have hstep := step_bd hen (dep := dep) (u := u) (a := foldI en dep u its free i) (it := itm) (fun d kids e => (hits d kids (e ▸ List.mem_of_getElem? hitm)).2.1) (by omega) l1
    have hstepg := step_g (en := en) (dep := dep) (u := u) (a := foldI en dep u its free i) (it := itm) l1
    have fin : ∀ {m' : PySem.Str → Option Value} {s' : Shared} {tA' : Tok}, (foldI en dep u its free (i + 1)).live = true →
        BS (hd.heap_1 w.params) w D st u (hideAll s.heap D.W) s.heap.objs.size s aR mp T it fi ci cT lst t7 (i + 1) (Ev.parse u :: (foldI en dep u its free (i + 1)).ev) (foldI en dep u its free (i + 1)).out (2 * i + 2) m' s' →
        m' (Str.ofString "self") = some (.ref D.xf) → m' (Str.ofString "args") = some (.ref D.args) → m' (Str.ofString "kwargs") = some (.ref D.named) → m' (Str.ofString "used_args") = some (.ref D.used) → m' (Str.ofString "recursion_depth") = some (.int dep td) → m' (Str.ofString "result") = some (.ref aR) →
        m' (Str.ofString "auto_arg_index") = some (.int ((foldI en dep u its free (i + 1)).free : Int) tA') →
        ∃ k, k < its.length - i ∧ ∃ i' m, k = its.length - i' ∧ i' ≤ its.length ∧ LI (hd.heap_1 w.params) w D st en dep u free its (hideAll s.heap D.W) s.heap.objs.size s aR mp T it fi ci cT lst t7 td i' m s' := by
      intro m' s' tA' hlv B q1 q2 q3 q4 q5 q6 q7
      obtain ⟨b1, b2⟩ := hstep
      rw [← hfold] at b1 b2 hstepg
      obtain ⟨b3, b4⟩ := b2 hlv
      obtain ⟨a, b, c, rs, k, ys, r1, r2, r3, r4⟩ := B
      exact ⟨its.length - (i + 1), by omega, i + 1, m', rfl, hlt, hlv, a, b, c, ⟨rs, k, ys, r1, r2, r3, by omega⟩, q1, q2, q3, q4, q5, q6, ⟨tA', q7⟩, by omega, by omega, by omega, by omega⟩
    have I12 := B12.I
    cases itm with
    | mid =>
      have e2 : v2 = .none := o2.of_none
      subst e2
      walk_at "gs"
      rw [stepI_mid l1] at hfold
      have B13 : BS (hd.heap_1 w.params) w D st u (hideAll s.heap D.W) s.heap.objs.size s aR mp T it fi ci cT lst t7 (i + 1) (Ev.parse u :: (foldI en dep u its free (i + 1)).ev) (foldI en dep u its free (i + 1)).out (2 * i + 2) (upd (upd (upd (upd m8 (Str.ofString "literal_text") v1) (Str.ofString "field_name") .none) (Str.ofString "format_spec") v3) (Str.ofString "conversion") v4) s12 := by
        rw [hfold]
        obtain ⟨a, b, c, rs, k, ys, r1, r2, r3, r4⟩ := B12
        exact ⟨a, b, c, rs, k, ys, r1, r2, r3, by omega⟩
      exact fin (tA' := tA) (by rw [hfold]) B13 (by walk_at "look") (by walk_at "look") (by walk_at "look") (by walk_at "look") (by walk_at "look") (by walk_at "look") (by rw [hfold]; walk_at "look")
    | fin =>
      have e2 : v2 = .none := o2.of_none
      subst e2
      walk_at "gs"
      rw [stepI_fin l1] at hfold
      have B13 : BS (hd.heap_1 w.params) w D st u (hideAll s.heap D.W) s.heap.objs.size s aR mp T it fi ci cT lst t7 (i + 1) (Ev.parse u :: (foldI en dep u its free (i + 1)).ev) (foldI en dep u its free (i + 1)).out (2 * i + 2) (upd (upd (upd (upd m8 (Str.ofString "literal_text") v1) (Str.ofString "field_name") .none) (Str.ofString "format_spec") v3) (Str.ofString "conversion") v4) s12 := by
        rw [hfold]
        obtain ⟨a, b, c, rs, k, ys, r1, r2, r3, r4⟩ := B12
        exact ⟨a, b, c, rs, k, ys, r1, r2, r3, by omega⟩
      exact fin (tA' := tA) (by rw [hfold]) B13 (by walk_at "look") (by walk_at "look") (by walk_at "look") (by walk_at "look") (by walk_at "look") (by walk_at "look") (by rw [hfold]; walk_at "look")
    | fld d kids =>
      obtain ⟨t2, e2⟩ := o2.of_some
      obtain ⟨t3, e3⟩ := o3.of_some
      subst e2 e3
      have o4' : OptIs v4 d.mark := o4
      obtain ⟨hEn, hOk, hHg⟩ := hits d kids (List.mem_of_getElem? hitm)
      rw [OkT] at hOk
      rw [wI] at hw
      have hF : (foldI en dep u its free i).free < 100 := by omega
      have hask := asked_le hOk.1 hF
      refine x_cons (wpAny_If ?_)
      iterate 6 walk_at "g1"
      refine x_cons (cut (fun f s' => f = .next ∧ ∃ m' ta tk, BS (hd.heap_1 w.params) w D st u (hideAll s.heap D.W) s.heap.objs.size s aR mp T it fi ci cT lst t7 (i + 1) (Ev.parse u :: (foldI en dep u its free i).ev ++ [Ev.piece u]) ((foldI en dep u its free i).out ++ litT d.lit) (2 * i + 1) m' s' ∧
        m' (Str.ofString "self") = some (.ref D.xf) ∧ m' (Str.ofString "args") = some (.ref D.args) ∧ m' (Str.ofString "kwargs") = some (.ref D.named) ∧ m' (Str.ofString "used_args") = some (.ref D.used) ∧ m' (Str.ofString "recursion_depth") = some (.int dep td) ∧ m' (Str.ofString "result") = some (.ref aR) ∧
        m' (Str.ofString "field_name") = some (.str (d.asked (foldI en dep u its free i).free) ta) ∧ m' (Str.ofString "auto_arg_index") = some (.int (d.next (foldI en dep u its free i).free : Int) tk) ∧
        m' (Str.ofString "format_spec") = some (.str (d.shape kids.isEmpty) t3) ∧ m' (Str.ofString "conversion") = some v4) ?nm ?rest2)
      case nm =>
        refine letQ ?_
        intro Q5
        refine wpAny_If ?_
        walk_at "gs"
        rename_i t13 s13 I13
        have B13 := B12.step F hAR I13 (Led.Le.refl _)
        clear B12 I12 I13
        have I13 := B13.I
        refine if_beq (fun hx => ?_) (fun hx => ?_)
        · have hau : d.auto = true := name_auto hx
          have hnx : ((d.next (foldI en dep u its free i).free : Nat) : Int) = ((foldI en dep u its free i).free : Int) + 1 := by
            unfold Nd.next; rw [if_pos hau]; rfl
          have hak : d.asked (foldI en dep u its free i).free = numT (foldI en dep u its free i).free := by unfold Nd.asked; rw [if_pos hau]
          walk_at "gs"
          rename_i s14 I14 _
          exact ⟨rfl, _, _, _, B13.step F hAR I14 (Led.Le.refl _), by walk_at "look", by walk_at "look", by walk_at "look", by walk_at "look", by walk_at "look", by walk_at "look", by rw [hak]; walk_at "look", by rw [hnx]; walk_at "look", by walk_at "look", by walk_at "look"⟩
        · have hau : d.auto = false := name_named hx
          have hnx : d.next (foldI en dep u its free i).free = (foldI en dep u its free i).free := by unfold Nd.next; rw [hau]; rfl
          have hak : d.asked (foldI en dep u its free i).free = d.name := by unfold Nd.asked Nd.name; rw [hau]; rfl
          have hdn : Txt.isdigit d.name = false := by
            unfold Nd.name; rw [hau, if_neg (by decide)]; exact digit_n _
          walk_at "gs"
          refine KXw.isdigit hdn ?_
          walk_at "gs"
          exact ⟨rfl, _, _, _, B13, by walk_at "look", by walk_at "look", by walk_at "look", by walk_at "look", by walk_at "look", by walk_at "look", by rw [hak]; walk_at "look", by rw [hnx]; walk_at "look", by walk_at "look", by walk_at "look"⟩
      rintro _ s13 ⟨rfl, m13, ta, tk, B13, y1, y2, y3, y4, y5, y6, y7, y8, y9, y10⟩
      refine then_next ?_
      clear B12 I12 mS mG mK mU mD mR mA
      have I13 := B13.I
      refine x_cons (Assign_Tuple ?_ (by with_unfolding_all rfl) (by with_unfolding_all rfl))
      walk_at "gs"
      rename_i s14 I14
      have B14 := B13.step F hAR I14 (Led.Le.refl _)
      clear B13 I13 I14
      refine wpAny_mono (get_spec (F.wld B14.I B14.V) R1.less hD (hfits (k := wIs its + 1) (by simp only [List.length_cons, List.length_append, List.length_nil]; omega) (Nat.le_refl _)) _ _ (by omega)) (fun v s15 y => ?_) (fun _ _ y => y.elim)
      obtain ⟨⟨⟨a15, t15, t16, rfl, ha15⟩, V15⟩, k15⟩ := y
      have B15 := B14.calledS (evs' := []) F hAR k15 (by rw [advS_nil]; exact V15)
      clear B14 V15 k15
      refine r_unpack2 B15.I R.handled ha15 ?_
      intro s16 I16 _
      have B16 := B15.step F hAR I16 (Led.Le.refl _)
      clear B15 I16 ha15
      have I16 := B16.I
      refine then_next ?_
      refine x_cons (wpAny_Expr_any ?_ (by with_unfolding_all rfl) (by with_unfolding_all rfl))
      walk_at "gs"
      have hV16 := B16.V
      rw [advS_nil] at hV16
      refine r_setMethod hV16.used ?_
      walk_at "gs"
      obtain ⟨ou, _, _, _, hou, _⟩ := hV16.used
      have hroom := advS_g st (Ev.parse u :: (foldI en dep u its free i).ev ++ [Ev.piece u])
      have eroom : gN (Ev.parse u :: (foldI en dep u its free i).ev ++ [Ev.piece u]) = gN (foldI en dep u its free i).ev := by rw [gN_app]; rfl
      rw [eroom] at hroom
      refine r_setAdd I16 (full_get hou (F.out D.used (.tail _ (.head _))).1 (F.out D.used (.tail _ (.head _))).2 rfl) hV16.used (by show _ < 4096; dsimp only; omega) ?_
      intro ou' s17 J17 hS17
      have B17 := B16.added hD F hAR J17 hS17
      clear B16 J17 hS17 hV16 hou I16
      have I17 := B17.I
      walk_at "gs"
      rename_i s18 I18
      have B18 := B17.step F hAR I18 (Led.Le.refl _)
      clear B17 I17 I18
      refine wpAny_mono (conv_spec (F.wld B18.I B18.V) R1.less hD (hfits (k := wIs its + 1) (by simp only [List.length_cons, List.length_append, List.length_nil]; omega) (Nat.le_refl _)) _ _ (by rw [PySem.Str.length_append, L_v]; omega) v4 d.mark o4' (by have := hOk.1.2.1; omega)) (fun v s19 y => ?_) (fun _ _ y => y.elim)
      obtain ⟨⟨⟨t19, rfl⟩, V19⟩, k19⟩ := y
      have B19 := B18.called (evs' := Ev.parse u :: (foldI en dep u its free i).ev ++ [Ev.piece u] ++ [Ev.get (d.asked (foldI en dep u its free i).free)] ++ [Ev.convert (Str.ofString "v" ++ d.asked (foldI en dep u its free i).free) d.mark]) F hAR k19 (by rw [advS_app]; exact V19)
      clear B18 V19 k19
      have I19 := B19.I
      walk_at "gs"
      refine x_cons (Assign_Tuple ?_ (by with_unfolding_all rfl) (by with_unfolding_all rfl))
      refine methodCall_KW ?_ (by with_unfolding_all rfl)
      walk_at "gs"
      refine callWith_KW F.glo.X (by k_is) (by with_unfolding_all rfl) ?_ (by with_unfolding_all rfl) (by with_unfolding_all rfl)
      refine wpAny_items_cons ?_ (by with_unfolding_all rfl)
      walk_at "gs"
      refine kws_cons ?_
      walk_at "gs"
      refine kws_nil ⟨F.glo.X.keeps (Fr.keep (In.fr (by assumption))), ?_⟩
      rename_i t20 s20 I20
      have B20 := B19.step F hAR I20 (Led.Le.refl _)
      clear B19 I19 I20
      have hEn' := hEn
      rw [EncT] at hEn'
      have hwk := items_w kids
      have hnx : d.next (foldI en dep u its free i).free ≤ (foldI en dep u its free i).free + 1 := by unfold Nd.next; split <;> omega
      have hfk := frame_kids en (dep - 1) (d.shape kids.isEmpty) kids (d.next (foldI en dep u its free i).free)
      have hwf : wIs (itemsF kids ++ [It.fin]) = wIs (itemsF kids) + 5 := by rw [wIs_app]; rfl
      refine wpAny_mono (ih (hgF kids) hHg (F.wld B20.I B20.V) R1.less (K.pushG B20.I (F.hasW B20.V)) (d.shape kids.isEmpty) t3 (dep - 1) t20 (d.next (foldI en dep u its free i).free) tk (itemsF kids ++ [It.fin]) _ _ ⟨rfl, .inl rfl⟩ (by rw [hEn'.1, List.map_append, items_pcs]; rfl)
        (fun d' kids' hm => by
          have hm' : It.fld d' kids' ∈ itemsF kids := by
            rcases List.mem_append.mp hm with h | h
            · exact h
            · cases List.mem_singleton.mp h
          obtain ⟨a, b, c⟩ := items_mem (en := en) (P := P) hm'
          exact ⟨a hEn'.2, b hOk.2, c⟩) (by omega) (by rw [advS_len]; simp only [List.length_cons, List.length_append, List.length_nil]; omega)
        (by
          have h := advS_g st (Ev.parse u :: (foldI en dep u its free i).ev ++ [Ev.piece u] ++ [Ev.get (d.asked (foldI en dep u its free i).free)] ++ [Ev.convert (Str.ofString "v" ++ d.asked (foldI en dep u its free i).free) d.mark])
          have eg : gN (Ev.parse u :: (foldI en dep u its free i).ev ++ [Ev.piece u] ++ [Ev.get (d.asked (foldI en dep u its free i).free)] ++ [Ev.convert (Str.ofString "v" ++ d.asked (foldI en dep u its free i).free) d.mark]) = gN (foldI en dep u its free i).ev + 1 := by rw [gN_app, gN_app, gN_app]; rfl
          rw [eg] at h
          omega)) (fun v s21 y => ?_) (fun e s21 y => ?fail)
      case fail =>
        rw [hfk] at y
        obtain ⟨hn, H2, ea, ty, hk2, V2, rfl, Fl2⟩ := y
        have I21 := B20.I.called (s' := { s20 with heap := H2 }) (F.hasW B20.V) ⟨hk2, rfl, rfl, rfl⟩
        rw [stepI_none l1 hn] at hfold
        have ef : frameR en dep u its free = (.parse u :: (foldI en dep u its free (i + 1)).ev, none) := by
          unfold frameR
          rw [if_neg hpos]
          have e : its.foldl (stepI en dep u) ⟨[], Str.ofString "", free, true⟩ = foldI en dep u its free (i + 1) := fold_end (by
            show (foldI en dep u its free (i + 1)).live = false
            rw [hfold])
          dsimp only
          rw [e, hfold]
          rfl
        refine leave_onG K I21 (Fl2.less (fun _ _ e => e) rfl rfl rfl) (fun s22 Fl3 => ?_)
        rw [ef]
        refine ⟨rfl, hideAll H2 [s.heap.objs.size], ea, ty, ?_, ?_, rfl, Fl3⟩
        · intro b o eb
          refine hideAll_get _ (I21.fr.keep b o eb) fun hm => ?_
          rw [List.mem_singleton] at hm
          subst hm
          exact absurd (Nat.lt_of_lt_of_le (Heap.lt_size eb) I21.fr.above) (Nat.lt_irrefl _)
        · rw [hfold]
          rw [← advS_app] at V2
          have ee : Ev.parse u :: (foldI en dep u its free i).ev ++ [Ev.piece u] ++ [Ev.get (d.asked (foldI en dep u its free i).free)] ++ [Ev.convert (Str.ofString "v" ++ d.asked (foldI en dep u its free i).free) d.mark] ++ (callR en (dep - 1) (d.shape kids.isEmpty) kids (d.next (foldI en dep u its free i).free)).1 =
              Ev.parse u :: ((foldI en dep u its free i).ev ++ fldEv u d (foldI en dep u its free i).free ++ (callR en (dep - 1) (d.shape kids.isEmpty) kids (d.next (foldI en dep u its free i).free)).1) := by
            simp only [fldEv, List.cons_append, List.append_assoc, List.nil_append]
          rw [ee] at V2
          refine V2.move (s := { s20 with heap := H2 }) (s' := { s20 with heap := hideAll H2 [s.heap.objs.size] }) (X := [s.heap.objs.size]) (fun b o hb e => hideAll_get _ e hb) fun x hx => ?_
          rw [List.mem_singleton] at hx
          subst hx
          refine ⟨fun hm => (F.out _ hm).1 rfl, fun o e => ?_⟩
          obtain ⟨o', es, ep, h1, h2⟩ := I21.isNs
          rw [e] at h1; cases h1
          exact mov_dict h2
      rw [hfk] at y
      obtain ⟨⟨txt, fr, a21, t21, t22, hfr, rfl, ha21, V21⟩, k21⟩ := y
      have B21 := B20.called (evs' := Ev.parse u :: (foldI en dep u its free i).ev ++ [Ev.piece u] ++ [Ev.get (d.asked (foldI en dep u its free i).free)] ++ [Ev.convert (Str.ofString "v" ++ d.asked (foldI en dep u its free i).free) d.mark] ++ (callR en (dep - 1) (d.shape kids.isEmpty) kids (d.next (foldI en dep u its free i).free)).1) F hAR k21 (by rw [advS_app]; exact V21)
      clear B20 V21 k21
      refine r_unpack2 B21.I R.handled ha21 ?_
      intro s22 I22 _
      have B22 := B21.step F hAR I22 (Led.Le.refl _)
      clear B21 I22 ha21
      have I22 := B22.I
      obtain ⟨rs, kr, ys, r1, r2, r3, r4⟩ := B22.res
      have hf := full_get (h₀ := hideAll s.heap D.W) (L := s.heap.objs.size) (z := Zx.of s) r1 hRn.1 hRn.2 rfl
      refine then_next ?_
      refine x_cons (wpAny_Expr_any ?_ (by with_unfolding_all rfl) (by with_unfolding_all rfl))
      walk_at "gs"
      rename_i s23 I23
      have B23 := B22.step F hAR I23 (Led.Le.refl _)
      clear B22 I22 I23 hf r1 r2 r3 r4
      have hcb := call_bd hen (ts := kids) (dep := dep - 1) (u := d.shape kids.isEmpty) (free := d.next (foldI en dep u its free i).free) hOk.2 (by omega)
      have hcx := hcb.2 txt fr hfr
      have hcl := hcb.1
      have hvl2 := value_le (free := (foldI en dep u its free i).free) hOk.1 hF
      refine wpAny_mono (fmt_spec (F.wld B23.I B23.V) R1.less hD (hfits (k := wIs its + 1) (by simp only [List.length_cons, List.length_append, List.length_nil]; omega) (Nat.le_refl _)) (d.value (foldI en dep u its free i).free) _ (by omega) _ _ (by omega)) (fun v s24 y => ?_) (fun _ _ y => y.elim)
      obtain ⟨⟨⟨t24, rfl⟩, V24⟩, k24⟩ := y
      have B24 := B23.called (evs' := Ev.parse u :: (foldI en dep u its free i).ev ++ [Ev.piece u] ++ [Ev.get (d.asked (foldI en dep u its free i).free)] ++ [Ev.convert (Str.ofString "v" ++ d.asked (foldI en dep u its free i).free) d.mark] ++ (callR en (dep - 1) (d.shape kids.isEmpty) kids (d.next (foldI en dep u its free i).free)).1 ++ [Ev.format (d.value (foldI en dep u its free i).free) txt]) F hAR k24 (by rw [advS_app]; exact V24)
      clear B23 V24 k24
      have I24 := B24.I
      obtain ⟨rs, kr, ys, r1, r2, r3, r4⟩ := B24.res
      have hf := full_get (h₀ := hideAll s.heap D.W) (L := s.heap.objs.size) (z := Zx.of s) r1 hRn.1 hRn.2 rfl
      walk_at "gs"
      refine r_append I24 hf ?_ (by show _ ≤ 16777216; omega)
      intro s25 k25 I25
      have B25 := B24.append F hAR r1 r2 r3 r4 I25
      clear B24 I24 I25 hf r1 r2 r3 r4
      walk_at "gs"
      rw [stepI_some l1 hfr] at hfold
      have B26 : BS (hd.heap_1 w.params) w D st u (hideAll s.heap D.W) s.heap.objs.size s aR mp T it fi ci cT lst t7 (i + 1) (Ev.parse u :: (foldI en dep u its free (i + 1)).ev) (foldI en dep u its free (i + 1)).out (2 * i + 2) (upd (upd (upd (upd (upd m13 (Str.ofString "obj") (Value.str (Str.ofString "v" ++ d.asked (foldI en dep u its free i).free) t15)) (Str.ofString "arg_used") (Value.str (Str.ofString "k" ++ d.asked (foldI en dep u its free i).free) t16)) (Str.ofString "obj") (Value.str (Str.ofString "v" ++ d.asked (foldI en dep u its free i).free ++ Str.ofString "!" ++ markT d.mark) t19)) (Str.ofString "format_spec") (Value.str txt t21)) (Str.ofString "auto_arg_index") (Value.int (fr : Int) t22)) s25 := by
        rw [hfold]
        have ee : Ev.parse u :: (foldI en dep u its free i).ev ++ [Ev.piece u] ++ [Ev.get (d.asked (foldI en dep u its free i).free)] ++ [Ev.convert (Str.ofString "v" ++ d.asked (foldI en dep u its free i).free) d.mark] ++ (callR en (dep - 1) (d.shape kids.isEmpty) kids (d.next (foldI en dep u its free i).free)).1 ++ [Ev.format (d.value (foldI en dep u its free i).free) txt] =
            Ev.parse u :: ((foldI en dep u its free i).ev ++ fldEv u d (foldI en dep u its free i).free ++ (callR en (dep - 1) (d.shape kids.isEmpty) kids (d.next (foldI en dep u its free i).free)).1 ++ [Ev.format (d.value (foldI en dep u its free i).free) txt]) := by
          simp only [fldEv, List.cons_append, List.append_assoc, List.nil_append]
        rw [ee] at B25
        exact B25
      exact fin (tA' := t22) (by rw [hfold]) B26 (by walk_at "look") (by walk_at "look") (by walk_at "look") (by walk_at "look") (by walk_at "look") (by walk_at "look") (by rw [hfold]; walk_at "look")
  · have hii : i = its.length := by omega
    subst hii
    have hvl : vs.length = its.length := by rw [hrows.length, List.length_map, List.length_map]
    have up : ∀ {a o}, (hideAll s8.heap D.W).get? a = some o → s8.heap.get? a = some o := fun e => of_hideAll _ e
    obtain ⟨oi, hoi, hic, hid⟩ := p8.it
    have hitW : it ∉ D.W := fun hm => by rw [hideAll_none _ hm] at hoi; cases hoi
    refine pyNext_map_end R.handled (up p8.mp) (up p8.T) ⟨oi, up hoi, hic, hid⟩ (xs := vs.toArray) ⟨_, I8.fr.keep _ _ hlst, rfl, _, rfl⟩ (by simp [hvl]) fun h' hx' => ?_
    have I9 : In (hideAll s.heap D.W) s.heap.objs.size m8 (fun a => if a = it then none else fullLed (hideAll s.heap D.W) s.heap.objs.size (Zx.of s) s8.heap a) (Zx.of s) { s8 with heap := h', toks := s8.toks } :=
      (I8.weaken (N := fun a => if a = it then none else fullLed (hideAll s.heap D.W) s.heap.objs.size (Zx.of s) s8.heap a) (fun a o e => by
        dsimp only at e
        by_cases q : a = it
        · rw [if_pos q] at e; cases e
        · rw [if_neg q] at e; exact e)).iter hne.1 hne.2 (if_pos rfl) rfl fun b o hb e => hx' b o hb e
    have V9 : Vr (hd.heap_1 w.params) w D (advS st (Ev.parse u :: (foldI en dep u its free its.length).ev)) ({ s8 with heap := h' } : Shared).heap := V8.move (s' := { s8 with heap := h' }) (X := [it]) (fun b o hb e => hx' b o (fun q => hb (q ▸ .head _)) e) fun x hx => by
      rw [List.mem_singleton] at hx
      subst hx
      refine ⟨hitW, fun o e => ?_⟩
      rw [up hoi] at e; cases e
      exact ⟨fun us e => ty_ne (by decide) (hic.symm.trans (congrArg Obj.cls e)), fun q => ty_ne (by decide) (hic.symm.trans q.1)⟩
    have hRi : aR ≠ it := fun q => by rw [q, up hoi] at r1; cases r1; exact ty_ne (by decide) hic
    have r9 : ({ s8 with heap := h' } : Shared).heap.get? aR = some (listOf rs.toArray kr) := hx' _ _ hRi r1
    have J9 := I9.full.1
    refine wpAny_execs_nil ?_
    show wpAny _ _ (execs _ _) _ _ _
    clear I8 I9 V8
    generalize ({ s8 with heap := h' } : Shared) = s9 at J9 V9 r9 ⊢
    walk_at "gs"
    refine r_join (by assumption) (full_get r9 hRn.1 hRn.2 rfl) r2 (by rw [r3]; omega) ?_
    intro t10 s10 I10
    walk_at "gs"
    rename_i a11 s11 hn11 _ I11
    obtain ⟨I12, k12, V12⟩ := F.step V9 J9 I11 (Led.le_put hn11)
    have ef : frameR en dep u its free = (.parse u :: (foldI en dep u its free its.length).ev, some ((foldI en dep u its free its.length).out, (foldI en dep u its free its.length).free)) := by
      unfold frameR
      rw [if_neg hpos]
      have e : its.foldl (stepI en dep u) ⟨[], Str.ofString "", free, true⟩ = foldI en dep u its free its.length := by unfold foldI; rw [List.take_length]
      dsimp only
      rw [e, if_pos l1]
    dsimp only [QQ]
    rw [ef]
    refine ⟨⟨_, _, a11, t10, tA, rfl, rfl, ?_, V12⟩, _, _, _, I12⟩
    rw [← r3]
    exact (I11.led _ _ Led.put_same).1
-- part C7
theorem lev_len (most : Int) : ∀ (cur : Int) (r : List Int), (levGo most cur r).length = r.length
  | _, [] => rfl
  | cur, x :: r => by rw [levGo]; exact congrArg Nat.succ (lev_len most _ r)
theorem lev_lvs {most : Int} (hm : 1 ≤ most) : ∀ (cur : Int) (r : List Int), 1 ≤ cur → Lvs (cur :: levGo most cur r)
  | cur, [], h => .one _ h
  | cur, x :: r, h => by
    rw [levGo]
    have e : ∀ nx : Int, 1 ≤ nx → nx ≤ cur + 1 → Lvs (cur :: nx :: levGo most nx r) := fun nx h1 h2 => .cons _ _ _ h h2 (lev_lvs hm nx r h1)
    refine e _ ?_ ?_
    · split
      · split <;> omega
      · split
        · split <;> omega
        · exact h
    · split
      · split <;> omega
      · split
        · split <;> omega
        · omega
theorem levels_len {most : Int} {ns : List Int} (h : ns ≠ []) : (levelsOf most ns).length = ns.length := by
  cases ns with
  | nil => exact absurd rfl h
  | cons x r => rw [levelsOf, List.length_cons, lev_len]; rfl
theorem levels_lvs {most : Int} (hm : 1 ≤ most) (ns : List Int) : Lvs (levelsOf most ns) := lev_lvs hm 1 _ (by decide)
/-- where the law's lists lie, and the values that never change -/
structure LA where
  row : Addr
  lev : Addr
  due : Addr
  un : Addr
  sh : Addr
  tx : Addr
  P : Addr
  cA : Addr
  cL : Addr
  cN : Addr
  cP : Addr
  rvs : List Value
  lvs : List Value
noncomputable def LA.six (X : LA) : List Addr := [X.row, X.lev, X.due, X.un, X.sh, X.tx]
/-- of the object alone: it is a dict of these pairs -/
noncomputable def DictO (w : World) (od : Obj) (kvs : List (PySem.Str × Value)) : Prop := ∀ (h : Heap) (a : Addr), h.get? a = some od → h.DictOf (strKind PySem.Challenge.rw_kp0026_05.prog w) a kvs
theorem dictO_of {w : World} {h : Heap} {a : Addr} {od : Obj} {kvs : List (PySem.Str × Value)} (e : h.get? a = some od) (x : h.DictOf (strKind PySem.Challenge.rw_kp0026_05.prog w) a kvs) : DictO w od kvs := by
  obtain ⟨o, es, ep, h1, r⟩ := x
  rw [e] at h1; cases h1
  exact fun h' a' e' => ⟨_, es, ep, e', r⟩
theorem DictO.data {w : World} {od : Obj} {kvs : List (PySem.Str × Value)} {h : Heap} {a : Addr} (x : DictO w od kvs) (e : h.get? a = some od) : ∃ es ep, od.data = .dict es ep := by
  obtain ⟨o, es, ep, h1, _, h3, _⟩ := x h a e
  rw [e] at h1; cases h1
  exact ⟨es, ep, h3⟩
noncomputable abbrev toV (x : PySem.Str × Addr) : PySem.Str × Value := (x.1, .ref x.2)
noncomputable def PcRel (N : Led) (x : PySem.Str × Addr) (pl : PySem.Str × List Pc) : Prop := x.1 = pl.1 ∧ ∃ vs k, N x.2 = some (listOf vs.toArray k) ∧ RowsAre N vs (pl.2.map pcR)
structure LN (w : World) (X : LA) (P : List (PySem.Str × List Pc)) (due : List Ev) (un sh tx : List PySem.Str) (N : Led) : Prop where
  row : ∃ k, N X.row = some (listOf X.rvs.toArray k)
  lev : ∃ k, N X.lev = some (listOf X.lvs.toArray k)
  due : ∃ vs k, N X.due = some (listOf vs.toArray k) ∧ RowsAre N vs (due.map evR)
  un : ∃ vs k, N X.un = some (listOf vs.toArray k) ∧ TxtsAre vs un.reverse
  sh : ∃ vs k, N X.sh = some (listOf vs.toArray k) ∧ TxtsAre vs sh.reverse
  tx : ∃ vs k, N X.tx = some (listOf vs.toArray k) ∧ TxtsAre vs tx.reverse
  tab : N 115 = some (tabObj #[])
  cA : ∃ o, N X.cA = some o ∧ o.data = .cell none
  cL : ∃ o, N X.cL = some o ∧ o.data = .cell none
  cN : ∃ o, N X.cN = some o ∧ o.data = .cell none
  cP : ∃ o, N X.cP = some o ∧ o.data = .cell (some (.ref X.P))
  P : ∃ od ks, N X.P = some od ∧ (∃ es ep, od.data = .dict es ep) ∧ DictO w od (ks.map toV) ∧ All2 (PcRel N) ks P ∧ (X.six ++ ks.map (·.2)).Nodup
theorem pcRel_mono {N N' : Led} (h : TupLe N N') {ks : List (PySem.Str × Addr)} {P : List (PySem.Str × List Pc)} (hl : ∀ x ∈ ks, ∀ vs k, N x.2 = some (listOf vs k) → N' x.2 = some (listOf vs k)) (r : All2 (PcRel N) ks P) : All2 (PcRel N') ks P := by
  induction r with
  | nil => exact .nil
  | cons x t ih =>
    obtain ⟨e, vs, k, h1, h2⟩ := x
    exact .cons ⟨e, vs, k, hl _ (.head _) _ _ h1, h2.mono h⟩ (ih fun x hx => hl x (.tail _ hx))
section
variable {w : World} {X : LA} {P : List (PySem.Str × List Pc)} {due : List Ev} {un sh tx : List PySem.Str} {N N' : Led}
/-- all stays but for one list a, which is none of ours or is made good elsewhere -/
theorem LN.le (n : LN w X P due un sh tx N) (l : Led.Le N N') : LN w X P due un sh tx N' := by
  obtain ⟨⟨k1, h1⟩, ⟨k2, h2⟩, ⟨v3, k3, h3, r3⟩, ⟨v4, k4, h4, r4⟩, ⟨v5, k5, h5, r5⟩, ⟨v6, k6, h6, r6⟩, h7, ⟨o8, h8, r8⟩, ⟨o9, h9, r9⟩, ⟨o10, h10, r10⟩, ⟨o11, h11, r11⟩, od, ks, h12, hd, h13, h14, h15⟩ := n
  exact ⟨⟨k1, l _ _ h1⟩, ⟨k2, l _ _ h2⟩, ⟨v3, k3, l _ _ h3, r3.mono (TupLe.of l)⟩, ⟨v4, k4, l _ _ h4, r4⟩, ⟨v5, k5, l _ _ h5, r5⟩, ⟨v6, k6, l _ _ h6, r6⟩, l _ _ h7, ⟨o8, l _ _ h8, r8⟩, ⟨o9, l _ _ h9, r9⟩, ⟨o10, l _ _ h10, r10⟩, ⟨o11, l _ _ h11, r11⟩, od, ks, l _ _ h12, hd, h13, pcRel_mono (TupLe.of l) (fun x _ vs k e => l _ _ e) h14, h15⟩
theorem list_ne_data {o : Obj} {vs : Array Value} {n : Nat} {a b : Addr} (h : N a = some (listOf vs n)) (hb : N b = some o) (hd : ∀ ws k, o.data ≠ .seq ws k) : b ≠ a := fun e => by
  rw [e, h] at hb; cases hb; exact hd _ _ rfl
theorem tupLe_put {a : Addr} {vs vs' : Array Value} {n n' : Nat} (h : N a = some (listOf vs n)) : TupLe N (N.put a (listOf vs' n')) := fun b us e => by
  have hb : b ≠ a := fun q => by rw [q, h] at e; exact ty_ne (by decide) (congrArg (fun o : Option Obj => (o.map Obj.cls).getD .none) e)
  rw [Led.put_ne hb]; exact e
theorem six_ne {a : Addr} {ks : List (PySem.Str × Addr)} (h : (X.six ++ ks.map (·.2)).Nodup) (ha : a ∈ X.six) : ∀ x ∈ ks, x.2 ≠ a := fun x hx e => by
  exact (List.nodup_append.mp h).2.2 a ha x.2 (List.mem_map_of_mem hx) e.symm
theorem LN.six_nodup (n : LN w X P due un sh tx N) : X.six.Nodup := by
  obtain ⟨od, ks, _, _, _, _, h⟩ := n.P
  exact (List.nodup_append.mp h).1
/-- one of the six lists is changed: what is left of the others -/
structure Rest (w : World) (X : LA) (P : List (PySem.Str × List Pc)) (a : Addr) (N' : Led) : Prop where
  tab : N' 115 = some (tabObj #[])
  cA : ∃ o, N' X.cA = some o ∧ o.data = .cell none
  cL : ∃ o, N' X.cL = some o ∧ o.data = .cell none
  cN : ∃ o, N' X.cN = some o ∧ o.data = .cell none
  cP : ∃ o, N' X.cP = some o ∧ o.data = .cell (some (.ref X.P))
  P : ∃ od ks, N' X.P = some od ∧ (∃ es ep, od.data = .dict es ep) ∧ DictO w od (ks.map toV) ∧ All2 (PcRel N') ks P ∧ (X.six ++ ks.map (·.2)).Nodup
theorem LN.rest (n : LN w X P due un sh tx N) {a : Addr} {vs vs' : Array Value} {k k' : Nat} (h : N a = some (listOf vs k)) (ha : a ∈ X.six) : Rest w X P a (N.put a (listOf vs' k')) := by
  obtain ⟨_, _, _, _, _, _, h7, ⟨o8, h8, r8⟩, ⟨o9, h9, r9⟩, ⟨o10, h10, r10⟩, ⟨o11, h11, r11⟩, od, ks, h12, ⟨es, ep, hd⟩, h13, h14, h15⟩ := n
  have ne := fun {o : Obj} {b : Addr} (hb : N b = some o) hd => list_ne_data h hb hd
  refine ⟨(Led.put_ne (ne h7 (by intro _ _ q; cases q))).trans h7, ⟨o8, (Led.put_ne (ne h8 (by rw [r8]; intro _ _ q; cases q))).trans h8, r8⟩, ⟨o9, (Led.put_ne (ne h9 (by rw [r9]; intro _ _ q; cases q))).trans h9, r9⟩,
    ⟨o10, (Led.put_ne (ne h10 (by rw [r10]; intro _ _ q; cases q))).trans h10, r10⟩, ⟨o11, (Led.put_ne (ne h11 (by rw [r11]; intro _ _ q; cases q))).trans h11, r11⟩, od, ks, (Led.put_ne (ne h12 (by rw [hd]; intro _ _ q; cases q))).trans h12, ⟨es, ep, hd⟩, h13, ?_, h15⟩
  exact pcRel_mono (tupLe_put h) (fun x hx us k e => (Led.put_ne (six_ne h15 ha x hx)).trans e) h14
theorem LN.setDue (n : LN w X P due un sh tx N) {vs vs' : List Value} {k k' : Nat} {due' : List Ev} (h : N X.due = some (listOf vs.toArray k)) (r : RowsAre N vs' (due'.map evR)) : LN w X P due' un sh tx (N.put X.due (listOf vs'.toArray k')) := by
  have q := n.rest (vs' := vs'.toArray) (k' := k') h (by simp [LA.six])
  have nd := n.six_nodup
  simp only [LA.six, List.nodup_cons, List.mem_cons, List.not_mem_nil, or_false, not_or, not_false_eq_true, List.nodup_nil, and_true] at nd
  obtain ⟨⟨k1, h1⟩, ⟨k2, h2⟩, _, ⟨v4, k4, h4, r4⟩, ⟨v5, k5, h5, r5⟩, ⟨v6, k6, h6, r6⟩, _⟩ := n
  exact ⟨⟨k1, (Led.put_ne nd.1.2.1).trans h1⟩, ⟨k2, (Led.put_ne nd.2.1.1).trans h2⟩, ⟨vs', k', Led.put_same, r.mono (tupLe_put h)⟩, ⟨v4, k4, (Led.put_ne (Ne.symm nd.2.2.1.1)).trans h4, r4⟩, ⟨v5, k5, (Led.put_ne (Ne.symm nd.2.2.1.2.1)).trans h5, r5⟩, ⟨v6, k6, (Led.put_ne (Ne.symm nd.2.2.1.2.2)).trans h6, r6⟩, q.tab, q.cA, q.cL, q.cN, q.cP, q.P⟩
theorem LN.setUn (n : LN w X P due un sh tx N) {vs vs' : List Value} {k k' : Nat} {un' : List PySem.Str} (h : N X.un = some (listOf vs.toArray k)) (r : TxtsAre vs' un'.reverse) : LN w X P due un' sh tx (N.put X.un (listOf vs'.toArray k')) := by
  have q := n.rest (vs' := vs'.toArray) (k' := k') h (by simp [LA.six])
  have nd := n.six_nodup
  simp only [LA.six, List.nodup_cons, List.mem_cons, List.not_mem_nil, or_false, not_or, not_false_eq_true, List.nodup_nil, and_true] at nd
  obtain ⟨⟨k1, h1⟩, ⟨k2, h2⟩, ⟨v3, k3, h3, r3⟩, _, ⟨v5, k5, h5, r5⟩, ⟨v6, k6, h6, r6⟩, _⟩ := n
  exact ⟨⟨k1, (Led.put_ne nd.1.2.2.1).trans h1⟩, ⟨k2, (Led.put_ne nd.2.1.2.1).trans h2⟩, ⟨v3, k3, (Led.put_ne nd.2.2.1.1).trans h3, r3.mono (tupLe_put h)⟩, ⟨vs', k', Led.put_same, r⟩, ⟨v5, k5, (Led.put_ne (Ne.symm nd.2.2.2.1.1)).trans h5, r5⟩, ⟨v6, k6, (Led.put_ne (Ne.symm nd.2.2.2.1.2)).trans h6, r6⟩, q.tab, q.cA, q.cL, q.cN, q.cP, q.P⟩
theorem LN.setSh (n : LN w X P due un sh tx N) {vs vs' : List Value} {k k' : Nat} {sh' : List PySem.Str} (h : N X.sh = some (listOf vs.toArray k)) (r : TxtsAre vs' sh'.reverse) : LN w X P due un sh' tx (N.put X.sh (listOf vs'.toArray k')) := by
  have q := n.rest (vs' := vs'.toArray) (k' := k') h (by simp [LA.six])
  have nd := n.six_nodup
  simp only [LA.six, List.nodup_cons, List.mem_cons, List.not_mem_nil, or_false, not_or, not_false_eq_true, List.nodup_nil, and_true] at nd
  obtain ⟨⟨k1, h1⟩, ⟨k2, h2⟩, ⟨v3, k3, h3, r3⟩, ⟨v4, k4, h4, r4⟩, _, ⟨v6, k6, h6, r6⟩, _⟩ := n
  exact ⟨⟨k1, (Led.put_ne nd.1.2.2.2.1).trans h1⟩, ⟨k2, (Led.put_ne nd.2.1.2.2.1).trans h2⟩, ⟨v3, k3, (Led.put_ne nd.2.2.1.2.1).trans h3, r3.mono (tupLe_put h)⟩, ⟨v4, k4, (Led.put_ne nd.2.2.2.1.1).trans h4, r4⟩, ⟨vs', k', Led.put_same, r⟩, ⟨v6, k6, (Led.put_ne (Ne.symm nd.2.2.2.2)).trans h6, r6⟩, q.tab, q.cA, q.cL, q.cN, q.cP, q.P⟩
theorem LN.setTx (n : LN w X P due un sh tx N) {vs vs' : List Value} {k k' : Nat} {tx' : List PySem.Str} (h : N X.tx = some (listOf vs.toArray k)) (r : TxtsAre vs' tx'.reverse) : LN w X P due un sh tx' (N.put X.tx (listOf vs'.toArray k')) := by
  have q := n.rest (vs' := vs'.toArray) (k' := k') h (by simp [LA.six])
  have nd := n.six_nodup
  simp only [LA.six, List.nodup_cons, List.mem_cons, List.not_mem_nil, or_false, not_or, not_false_eq_true, List.nodup_nil, and_true] at nd
  obtain ⟨⟨k1, h1⟩, ⟨k2, h2⟩, ⟨v3, k3, h3, r3⟩, ⟨v4, k4, h4, r4⟩, ⟨v5, k5, h5, r5⟩, _, _⟩ := n
  exact ⟨⟨k1, (Led.put_ne nd.1.2.2.2.2).trans h1⟩, ⟨k2, (Led.put_ne nd.2.1.2.2.2).trans h2⟩, ⟨v3, k3, (Led.put_ne nd.2.2.1.2.2).trans h3, r3.mono (tupLe_put h)⟩, ⟨v4, k4, (Led.put_ne nd.2.2.2.1.2).trans h4, r4⟩, ⟨v5, k5, (Led.put_ne nd.2.2.2.2).trans h5, r5⟩, ⟨vs', k', Led.put_same, r⟩, q.tab, q.cA, q.cL, q.cN, q.cP, q.P⟩
end
-- part C8
theorem addP_none {P : List (PySem.Str × List Pc)} {u : PySem.Str} {l : List Pc} (h : ∀ x ∈ P, x.1 ≠ u) : addP P u l = P := by
  unfold addP
  induction P with
  | nil => rfl
  | cons a P ih =>
    rw [List.map_cons, if_neg (h a (.head _)), ih fun x hx => h x (.tail _ hx)]
theorem addP_keys (P : List (PySem.Str × List Pc)) (u : PySem.Str) (l : List Pc) : (addP P u l).map (·.1) = P.map (·.1) := by
  unfold addP
  rw [List.map_map]
  refine List.map_congr_left fun x _ => ?_
  show (if x.1 = u then (x.1, x.2 ++ l) else x).1 = x.1
  split <;> rfl
theorem pcs_keys {N : Led} {ks : List (PySem.Str × Addr)} {P : List (PySem.Str × List Pc)} (r : All2 (PcRel N) ks P) : ks.map (·.1) = P.map (·.1) := by
  induction r with
  | nil => rfl
  | cons x t ih => rw [List.map_cons, List.map_cons, ih, x.1]
theorem pcs_look {N : Led} {ks : List (PySem.Str × Addr)} {P : List (PySem.Str × List Pc)} {u : PySem.Str} {pl : List Pc} (r : All2 (PcRel N) ks P) (h : P.lookup u = some pl) :
    ∃ a vs k, valueAt (ks.map toV) u = some (.ref a) ∧ (u, a) ∈ ks ∧ N a = some (listOf vs.toArray k) ∧ RowsAre N vs (pl.map pcR) := by
  induction r with
  | nil => cases h
  | @cons x p ks' P' hx t ih =>
    obtain ⟨x1, a⟩ := x
    obtain ⟨p1, l⟩ := p
    obtain ⟨e, vs, k, h1, h2⟩ := hx
    have e : x1 = p1 := e
    subst e
    by_cases c : u = x1
    · subst c
      rw [List.lookup_cons, beq_self_eq_true] at h
      cases h
      exact ⟨a, vs, k, by simp [valueAt, toV], .head _, h1, h2⟩
    · have c' : (u == x1) = false := by simpa using c
      rw [List.lookup_cons, c'] at h
      obtain ⟨a', vs', k', g1, g2, g3, g4⟩ := ih h
      refine ⟨a', vs', k', ?_, .tail _ g2, g3, g4⟩
      rw [← g1, List.map_cons]
      unfold valueAt
      rw [List.find?_cons]
      have : decide ((toV (x1, a)).1 = u) = false := decide_eq_false (Ne.symm c)
      rw [this]
theorem pcs_add {N : Led} {ks : List (PySem.Str × Addr)} {P : List (PySem.Str × List Pc)} {u : PySem.Str} {a : Addr} {vs : List Value} {k k' : Nat} {v : Value} {pc : Pc} (r : All2 (PcRel N) ks P) (na : (ks.map (·.2)).Nodup) (nk : (P.map (·.1)).Nodup) (hm : (u, a) ∈ ks)
    (ha : N a = some (listOf vs.toArray k)) (hv : RowAt N v (pcR pc)) : All2 (PcRel (N.put a (listOf (vs ++ [v]).toArray k'))) ks (addP P u [pc]) := by
  have tl := tupLe_put (vs' := (vs ++ [v]).toArray) (n' := k') ha
  induction r with
  | nil => cases hm
  | @cons x p ks' P' hx t ih =>
    obtain ⟨x1, b⟩ := x
    obtain ⟨p1, l⟩ := p
    obtain ⟨e, us, n, h1, h2⟩ := hx
    have e : x1 = p1 := e
    subst e
    rw [List.map_cons, List.nodup_cons] at na nk
    rcases List.mem_cons.mp hm with q | hm'
    · have q1 : u = x1 := congrArg Prod.fst q
      have q2 : a = b := congrArg Prod.snd q
      subst q1; subst q2
      have h1 : N a = some (listOf us.toArray n) := h1
      rw [ha] at h1
      have hus : vs = us := by
        have := congrArg (fun o : Option Obj => o.map Obj.data) h1
        simp only [Option.map_some, Option.some.injEq] at this
        injection this with q1 q2
        exact congrArg Array.toList q1
      subst hus
      have hr : addP ((u, l) :: P') u [pc] = (u, l ++ [pc]) :: P' := by
        have : addP ((u, l) :: P') u [pc] = (if u = u then (u, l ++ [pc]) else (u, l)) :: addP P' u [pc] := rfl
        rw [this, if_pos rfl, addP_none fun y hy q => nk.1 (by rw [← q]; exact List.mem_map_of_mem (f := (·.1)) hy)]
      rw [hr]
      refine .cons ⟨rfl, vs ++ [v], k', Led.put_same, ?_⟩ (pcRel_mono tl (fun y hy ws j e' => ?_) t)
      · rw [List.map_append]
        exact (h2.mono tl).append (.cons (hv.mono tl) .nil)
      · rw [Led.put_ne]; exact e'
        exact fun q => na.1 (by rw [← q]; exact List.mem_map_of_mem (f := (·.2)) hy)
    · have hb : b ≠ a := fun q => na.1 (by rw [q]; exact List.mem_map_of_mem (f := (·.2)) hm')
      have hx1 : x1 ≠ u := fun q => nk.1 (by rw [q, ← pcs_keys t]; exact List.mem_map_of_mem (f := (·.1)) hm')
      have hr : addP ((x1, l) :: P') u [pc] = (x1, l) :: addP P' u [pc] := by
        have : addP ((x1, l) :: P') u [pc] = (if x1 = u then (x1, l ++ [pc]) else (x1, l)) :: addP P' u [pc] := rfl
        rw [this, if_neg hx1]
      rw [hr]
      exact .cons ⟨rfl, us, n, (Led.put_ne hb).trans h1, h2.mono tl⟩ (ih na.2 nk.2 hm')
theorem stored_new {ks : List (PySem.Str × Addr)} {u : PySem.Str} {a : Addr} (h : u ∉ ks.map (·.1)) : stored (ks.map toV) u (.ref a) = (ks ++ [(u, a)]).map toV := by
  unfold stored
  have : (ks.map toV).any (fun kv => decide (kv.1 = u)) = false := by
    rw [List.any_eq_false]
    intro x hx
    obtain ⟨y, hy, rfl⟩ := List.mem_map.mp hx
    simp only [decide_eq_true_eq]
    exact fun q => h (q ▸ List.mem_map_of_mem hy)
  rw [this, if_neg Bool.false_ne_true, List.map_append]
  rfl
theorem lookup_none_keys {P : List (PySem.Str × List Pc)} {u : PySem.Str} (h : u ∉ P.map (·.1)) : P.lookup u = none := by
  induction P with
  | nil => rfl
  | cons a P ih =>
    rw [List.map_cons, List.mem_cons, not_or] at h
    have : (u == a.1) = false := by simpa using h.1
    rw [List.lookup_cons, this]
    exact ih h.2
section
variable {w : World} {X : LA} {P : List (PySem.Str × List Pc)} {due : List Ev} {un sh tx : List PySem.Str} {N N' : Led}
/-- a piece is added to the list of u -/
theorem LN.pcAdd (n : LN w X P due un sh tx N) {u : PySem.Str} {pl : List Pc} (nk : (P.map (·.1)).Nodup) (hu : P.lookup u = some pl) : ∃ (od : Obj) (ks : List (PySem.Str × Addr)) (a : Addr) (vs : List Value) (k : Nat), N X.P = some od ∧ DictO w od (ks.map toV) ∧ valueAt (ks.map toV) u = some (.ref a) ∧ N a = some (listOf vs.toArray k) ∧ vs.length = pl.length ∧
    ∀ N', Led.Le N N' → ∀ v pc k', RowAt N' v (pcR pc) → LN w X (addP P u [pc]) due un sh tx (N'.put a (listOf (vs ++ [v]).toArray k')) := by
  obtain ⟨⟨k1, h1⟩, ⟨k2, h2⟩, ⟨v3, k3, h3, r3⟩, ⟨v4, k4, h4, r4⟩, ⟨v5, k5, h5, r5⟩, ⟨v6, k6, h6, r6⟩, h7, ⟨o8, h8, r8⟩, ⟨o9, h9, r9⟩, ⟨o10, h10, r10⟩, ⟨o11, h11, r11⟩, od, ks, h12, ⟨es, ep, hd⟩, h13, h14, h15⟩ := n
  obtain ⟨a, vs, k, g1, g2, g3, g4⟩ := pcs_look h14 hu
  refine ⟨od, ks, a, vs, k, h12, h13, g1, g3, by rw [g4.length, List.length_map], fun N' l v pc k' hv => ?_⟩
  have na := (List.nodup_append.mp h15).2.1
  have six : ∀ b ∈ X.six, b ≠ a := fun b hb => Ne.symm (six_ne h15 hb _ g2)
  have ne := fun {o : Obj} {b : Addr} (hb : N' b = some o) hd => list_ne_data (l _ _ g3) hb hd
  have tl := tupLe_put (vs' := (vs ++ [v]).toArray) (n' := k') (l _ _ g3)
  have h14' := pcRel_mono (TupLe.of l) (fun x _ vs k e => l _ _ e) h14
  exact ⟨⟨k1, (Led.put_ne (six _ (by simp [LA.six]))).trans (l _ _ h1)⟩, ⟨k2, (Led.put_ne (six _ (by simp [LA.six]))).trans (l _ _ h2)⟩, ⟨v3, k3, (Led.put_ne (six _ (by simp [LA.six]))).trans (l _ _ h3), (r3.mono (TupLe.of l)).mono tl⟩, ⟨v4, k4, (Led.put_ne (six _ (by simp [LA.six]))).trans (l _ _ h4), r4⟩,
    ⟨v5, k5, (Led.put_ne (six _ (by simp [LA.six]))).trans (l _ _ h5), r5⟩, ⟨v6, k6, (Led.put_ne (six _ (by simp [LA.six]))).trans (l _ _ h6), r6⟩, (Led.put_ne (ne (l _ _ h7) (by intro _ _ q; cases q))).trans (l _ _ h7), ⟨o8, (Led.put_ne (ne (l _ _ h8) (by rw [r8]; intro _ _ q; cases q))).trans (l _ _ h8), r8⟩,
    ⟨o9, (Led.put_ne (ne (l _ _ h9) (by rw [r9]; intro _ _ q; cases q))).trans (l _ _ h9), r9⟩, ⟨o10, (Led.put_ne (ne (l _ _ h10) (by rw [r10]; intro _ _ q; cases q))).trans (l _ _ h10), r10⟩, ⟨o11, (Led.put_ne (ne (l _ _ h11) (by rw [r11]; intro _ _ q; cases q))).trans (l _ _ h11), r11⟩,
    od, ks, (Led.put_ne (ne (l _ _ h12) (by rw [hd]; intro _ _ q; cases q))).trans (l _ _ h12), ⟨es, ep, hd⟩, h13, pcs_add h14' na nk g2 (l _ _ g3) hv, h15⟩
/-- a key of its own for a new list -/
theorem LN.pcNew (n : LN w X P due un sh tx N) {u : PySem.Str} (hu : u ∉ P.map (·.1)) : ∃ (od : Obj) (ks : List (PySem.Str × Addr)), N X.P = some od ∧ (∃ es ep, od.data = .dict es ep) ∧ DictO w od (ks.map toV) ∧ ks.length = P.length ∧
    ∀ a od' es ep, N a = none → od'.data = .dict es ep → DictO w od' (stored (ks.map toV) u (.ref a)) → LN w X (P ++ [(u, [])]) due un sh tx ((N.put a (listOf [].toArray 0)).put X.P od') := by
  obtain ⟨⟨k1, h1⟩, ⟨k2, h2⟩, ⟨v3, k3, h3, r3⟩, ⟨v4, k4, h4, r4⟩, ⟨v5, k5, h5, r5⟩, ⟨v6, k6, h6, r6⟩, h7, ⟨o8, h8, r8⟩, ⟨o9, h9, r9⟩, ⟨o10, h10, r10⟩, ⟨o11, h11, r11⟩, od, ks, h12, ⟨es, ep, hd⟩, h13, h14, h15⟩ := n
  refine ⟨od, ks, h12, ⟨es, ep, hd⟩, h13, h14.length, fun a od' es' ep' ha hd' hD => ?_⟩
  have neP : ∀ {b : Addr} {o : Obj}, N b = some o → (∀ es ep, o.data ≠ .dict es ep) → b ≠ X.P := fun hb hn q => by rw [q, h12] at hb; cases hb; exact hn _ _ hd
  have up : ∀ {b : Addr} {o : Obj}, N b = some o → (∀ es ep, o.data ≠ .dict es ep) → ((N.put a (listOf [].toArray 0)).put X.P od') b = some o := fun hb hn => (Led.put_ne (neP hb hn)).trans (Led.put_of hb ha)
  have nl : ∀ {vs : Array Value} {k : Nat}, ∀ es ep, (listOf vs k).data ≠ .dict es ep := by intro _ _ es ep q; cases q
  have tl : TupLe N ((N.put a (listOf [].toArray 0)).put X.P od') := fun b us e => up e (by intro _ _ q; cases q)
  have haP : a ≠ X.P := fun q => by rw [q, h12] at ha; cases ha
  have hak : ∀ x ∈ ks, x.2 ≠ a := fun x hx q => by
    have : ∃ vs k, N x.2 = some (listOf vs k) := by
      clear h13 hD h15 hu
      induction h14 with
      | nil => cases hx
      | cons y t ih =>
        rcases List.mem_cons.mp hx with rfl | hx
        · obtain ⟨_, vs, k, e, _⟩ := y; exact ⟨_, _, e⟩
        · exact ih hx
    obtain ⟨vs, k, e⟩ := this
    rw [q, ha] at e; cases e
  have hku : u ∉ ks.map (·.1) := by rw [pcs_keys h14]; exact hu
  have has : ∀ b ∈ X.six, b ≠ a := fun b hb q => by
    subst q
    simp only [LA.six, List.mem_cons, List.not_mem_nil, or_false] at hb
    rcases hb with q | q | q | q | q | q
    · rw [q, h1] at ha; cases ha
    · rw [q, h2] at ha; cases ha
    · rw [q, h3] at ha; cases ha
    · rw [q, h4] at ha; cases ha
    · rw [q, h5] at ha; cases ha
    · rw [q, h6] at ha; cases ha
  refine ⟨⟨k1, up h1 nl⟩, ⟨k2, up h2 nl⟩, ⟨v3, k3, up h3 nl, r3.mono tl⟩, ⟨v4, k4, up h4 nl, r4⟩, ⟨v5, k5, up h5 nl, r5⟩, ⟨v6, k6, up h6 nl, r6⟩, up h7 (by intro _ _ q; cases q), ⟨o8, up h8 (by rw [r8]; intro _ _ q; cases q), r8⟩, ⟨o9, up h9 (by rw [r9]; intro _ _ q; cases q), r9⟩,
    ⟨o10, up h10 (by rw [r10]; intro _ _ q; cases q), r10⟩, ⟨o11, up h11 (by rw [r11]; intro _ _ q; cases q), r11⟩, od', ks ++ [(u, a)], Led.put_same, ⟨es', ep', hd'⟩, by rw [← stored_new hku]; exact hD, ?_, ?_⟩
  · refine (pcRel_mono tl (fun x hx vs k e => up e nl) h14).append (.cons ⟨rfl, [], 0, ?_, .nil⟩ .nil)
    rw [Led.put_ne haP]; exact Led.put_same
  · rw [List.map_append, ← List.append_assoc, List.nodup_append]
    refine ⟨h15, by simp, fun x hx y hy => ?_⟩
    have hy : y = a := by simpa using hy
    subst hy
    rcases List.mem_append.mp hx with hx | hx
    · exact has x hx
    · obtain ⟨p, hp, rfl⟩ := List.mem_map.mp hx
      exact hak p hp
end
-- part C9
noncomputable def forBody (b : List Stmt) (i : Nat) : List Stmt := match b[i]? with
  | some (.For _ _ c _ _) => c
  | _ => []
noncomputable def noneEnv : Env := envX (Str.ofString "") { kind := .function, names := [], isGenerator := false, isCoroutine := false, more := [] } 0 0 .none []
noncomputable def lawE (K : Frag) (L : Addr) : Env := match K.lookup 118 with
  | some ⟨_, _, .func fd, _⟩ => envX fd.qualname fd.scope L 118 fd.code (cellsFrom (L + 1) fd.scope.names [])
  | _ => noneEnv
section
variable {K : Frag} {oc : Value} {od : Option Addr} {osl : Array (Option Value)} {name qual : PySem.Str} {params : Arguments} {body : List Stmt} {scope : Scope} {cl : List (PySem.Str × Addr)} {dV kV doc pm cdv ct : Value} {an : Option Addr}
theorem lawE_of (L : Addr) (ho : K.lookup 118 = some ⟨oc, od, .func (fnX name qual params body scope cl dV kV doc pm an cdv ct), osl⟩) : lawE K L = envX qual scope L 118 cdv (cellsFrom (L + 1) scope.names []) := by
  unfold lawE; rw [ho]
theorem seg_go {M : Model} {A : Around} {E : Value → Shared → Prop} {s : Shared} {Q : Flow → Shared → Prop} {L : Addr} {b : List Stmt} (pick : List Stmt → List Stmt) (ho : K.lookup 118 = some ⟨oc, od, .func (fnX name qual params body scope cl dV kV doc pm an cdv ct), osl⟩) (e : pick body = b)
    (h : let ev := envX qual scope L 118 cdv (cellsFrom (L + 1) scope.names []); let Q' := Q; wpAny M A (execs b ev) Q' E s) : wpAny M A (execs (pick (lawB K)) (lawE K L)) Q E s := by
  rw [lawE_of L ho, lawB_of ho, e]; exact h
theorem seg_back {M : Model} {A : Around} {E : Value → Shared → Prop} {s : Shared} {Q : Flow → Shared → Prop} {L : Addr} {b : List Stmt} (pick : List Stmt → List Stmt) (ho : K.lookup 118 = some ⟨oc, od, .func (fnX name qual params body scope cl dV kV doc pm an cdv ct), osl⟩) (e : pick body = b)
    (h : wpAny M A (execs (pick (lawB K)) (lawE K L)) Q E s) : wpAny M A (execs b (envX qual scope L 118 cdv (cellsFrom (L + 1) scope.names []))) Q E s := by
  rw [lawE_of L ho, lawB_of ho, e] at h; exact h
end
noncomputable def Phi (S : Sl) : Nat := (S.texts.map (·.length)).sum + (S.shown.map fun v => v.length + 10).sum
/-- how far the law's loop has come: what keeps it within bounds -/
structure SI (S : Sl) (j lv : Nat) : Prop where
  keys : (S.P.map (·.1)).Nodup
  kin : ∀ u ∈ S.P.map (·.1), u = topT ∨ u = Str.ofString "" ∨ ∃ i, i < j ∧ u = fmtT i
  und : ∀ u ∈ S.under, ∃ l, S.P.lookup u = some l
  lu : S.under.length = lv
  ls : S.shown.length + 1 = lv
  lt : S.texts.length = lv
  free : S.free ≤ j
  phi : Phi S ≤ 300 * j
  due : S.due.length + 2 * S.shown.length ≤ 10 * j + 1
  psi : (S.P.map (·.2.length)).sum + S.shown.length ≤ 3 * j + 1
  pl : S.P.length ≤ j + 2
  emp : ∃ l, S.P.lookup (Str.ofString "") = some l
theorem addP_sum {P : List (PySem.Str × List Pc)} {u : PySem.Str} {l : List Pc} (h : (P.map (·.1)).Nodup) : ((addP P u l).map (·.2.length)).sum ≤ (P.map (·.2.length)).sum + l.length := by
  induction P with
  | nil => simp [addP]
  | cons a P ih =>
    rw [List.map_cons, List.nodup_cons] at h
    by_cases c : a.1 = u
    · have hr : addP (a :: P) u l = (a.1, a.2 ++ l) :: P := by
        have : addP (a :: P) u l = (if a.1 = u then (a.1, a.2 ++ l) else a) :: addP P u l := rfl
        rw [this, if_pos c, addP_none fun y hy q => h.1 (by rw [c, ← q]; exact List.mem_map_of_mem (f := (·.1)) hy)]
      rw [hr]
      simp only [List.map_cons, List.sum_cons, List.length_append]; omega
    · have hr : addP (a :: P) u l = a :: addP P u l := by
        have : addP (a :: P) u l = (if a.1 = u then (a.1, a.2 ++ l) else a) :: addP P u l := rfl
        rw [this, if_neg c]
      rw [hr]
      have := ih h.2
      simp only [List.map_cons, List.sum_cons]; omega
theorem look_le {P : List (PySem.Str × List Pc)} {u : PySem.Str} {l : List Pc} (h : P.lookup u = some l) : l.length ≤ (P.map (·.2.length)).sum := by
  induction P with
  | nil => cases h
  | cons a P ih =>
    rw [List.map_cons, List.sum_cons]
    by_cases c : (u == a.1) = true
    · rw [List.lookup_cons, c] at h; cases h; omega
    · have c' : (u == a.1) = false := by simpa using c
      rw [List.lookup_cons, c'] at h
      have := ih h; omega
theorem und_addP {P : List (PySem.Str × List Pc)} {u : PySem.Str} {l : List Pc} {U : List PySem.Str} (h : ∀ u ∈ U, ∃ l, P.lookup u = some l) : ∀ x ∈ U, ∃ l', (addP P u l).lookup x = some l' := fun x hx => by
  obtain ⟨l', hl⟩ := h x hx
  rw [lk_add]
  split
  · rw [hl]; exact ⟨_, rfl⟩
  · exact ⟨l', hl⟩
theorem SI.pop {S : Sl} {j lv : Nat} {en : PySem.Str} (h : SI S j lv) (h2 : 2 ≤ lv) (hen : en.length ≤ 1) : ∃ u U v Y t t' T, S.under = u :: U ∧ S.shown = v :: Y ∧ S.texts = t :: t' :: T ∧ pop1 en S = ⟨endP en S.P u, S.due ++ [.piece u, .format v (t ++ en)], S.fault, S.free, U, Y, (t' ++ shown v (t ++ en)) :: T⟩ ∧ SI (pop1 en S) j (lv - 1) := by
  obtain ⟨P, due, fault, free, under, sh, texts⟩ := S
  obtain ⟨h1, h3, h4, h5, h6, h7, h8, h9, h10, h11, h12, h13⟩ := h
  dsimp only at h1 h3 h4 h5 h6 h7 h8 h9 h10 h11 h12 h13
  cases under with
  | nil => simp only [List.length_nil] at h5; omega
  | cons u U =>
    cases sh with
    | nil => simp only [List.length_nil] at h6; omega
    | cons v Y =>
      cases texts with
      | nil => simp only [List.length_nil] at h7; omega
      | cons t T0 =>
        cases T0 with
        | nil => simp only [List.length_cons, List.length_nil] at h7; omega
        | cons t' T =>
          refine ⟨u, U, v, Y, t, t', T, rfl, rfl, rfl, rfl, ?_⟩
          have ek : (endP en P u).map (·.1) = P.map (·.1) := by
            unfold endP; split
            · rfl
            · exact addP_keys _ _ _
          have es : ((endP en P u).map (·.2.length)).sum ≤ (P.map (·.2.length)).sum + 1 := by
            unfold endP; split
            · omega
            · exact addP_sum h1
          have el : (endP en P u).length = P.length := by
            have := congrArg List.length ek
            simpa using this
          simp only [List.length_cons] at h5 h6 h7 h10 h11
          refine { keys := by show ((endP en P u).map _).Nodup; rw [ek]; exact h1, kin := fun x hx => h3 x (by rw [← ek]; exact hx), und := ?_, lu := by show U.length = _; omega, ls := by show Y.length + 1 = _; omega, lt := by show (_ :: T).length = _; rw [List.length_cons]; omega, free := h8, phi := ?_, due := ?_, psi := by show ((endP en P u).map (·.2.length)).sum + Y.length ≤ _; omega, pl := by show (endP en P u).length ≤ _; omega, emp := ?_ }
          · show ∀ x ∈ U, ∃ l, (endP en P u).lookup x = some l
            unfold endP
            split
            · exact fun x hx => h4 x (.tail _ hx)
            · exact und_addP fun x hx => h4 x (.tail _ hx)
          · unfold Phi at h9 ⊢
            show (((t' ++ shown v (t ++ en)) :: T).map (·.length)).sum + (Y.map _).sum ≤ _
            simp only [List.map_cons, List.sum_cons, PySem.Str.length_append, shown_le] at h9 ⊢
            omega
          · show (due ++ [_, _]).length + 2 * Y.length ≤ _
            rw [List.length_append]; simp only [List.length_cons, List.length_nil]; omega
          · show ∃ l, (endP en P u).lookup _ = some l
            unfold endP
            split
            · exact h13
            · exact und_addP (U := [Str.ofString ""]) (fun x hx => by rw [List.mem_singleton.mp hx]; exact h13) _ (.head _)
theorem shape_is (d : Nd) (leaf : Bool) : d.shape leaf = Str.ofString "" ∨ d.shape leaf = fmtT d.j := by
  unfold Nd.shape; split
  · exact .inl rfl
  · exact .inr rfl
theorem SI.fresh {S : Sl} {j lv : Nat} (h : SI S j lv) (hj : j < 65) : fmtT j ∉ S.P.map (·.1) := fun hm => by
  rcases h.kin _ hm with q | q | ⟨i, hi, q⟩
  · exact top_fmt _ q.symm
  · exact fmt_ne _ q
  · have := fmt_inj j hj i (by omega) q; omega
theorem SI.push {S : Sl} {j lv : Nat} {d : Nd} {depth : Int} {leaf : Bool} (h : SI S j lv) (h1 : 1 ≤ lv) (hd : OkN d) (hj : d.j = j) (hj65 : j < 65) : ∃ u U t T, S.under = u :: U ∧ S.texts = t :: T ∧
    push depth lv d (d.shape leaf) S = ⟨newP (addP S.P u (d.pcs (d.shape leaf))) (d.shape leaf), S.due ++ d.pre u S.free ++ [.parse (d.shape leaf)], orCut S.fault (if (lv : Int) > depth then some (S.due ++ d.pre u S.free).length else none), d.next S.free, d.shape leaf :: u :: U, d.value S.free :: S.shown, Str.ofString "" :: (t ++ d.midT ++ litT d.lit) :: T⟩ ∧
    SI (Mine.push depth lv d (d.shape leaf) S) (j + 1) (lv + 1) := by
  have hfr := h.fresh hj65
  obtain ⟨P, due, fault, free, under, sh, texts⟩ := S
  obtain ⟨h2, h3, h4, h5, h6, h7, h8, h9, h10, h11, h12, h13⟩ := h
  dsimp only at h2 h3 h4 h5 h6 h7 h8 h9 h10 h11 h12 h13 hfr
  cases under with
  | nil => simp only [List.length_nil] at h5; omega
  | cons u U =>
    cases texts with
    | nil => simp only [List.length_nil] at h7; omega
    | cons t T =>
      refine ⟨u, U, t, T, rfl, rfl, rfl, ?_⟩
      have hsh := shape_is d leaf
      rw [hj] at hsh
      generalize d.shape leaf = shp at hsh
      have hp2 : (d.pcs shp).length ≤ 2 := by unfold Nd.pcs; split <;> simp
      have ek : (addP P u (d.pcs shp)).map (·.1) = P.map (·.1) := addP_keys _ _ _
      have es : ((addP P u (d.pcs shp)).map (·.2.length)).sum ≤ (P.map (·.2.length)).sum + 2 := by have := addP_sum (P := P) (u := u) (l := d.pcs shp) h2; omega
      have el : (addP P u (d.pcs shp)).length = P.length := by
        have := congrArg List.length ek
        simpa using this
      have hv := value_le (free := free) hd (by omega)
      have hpre : (d.pre u free).length ≤ 4 := by unfold Nd.pre Nd.midEv; split <;> simp
      have hmid : d.midT.length ≤ 3 := by
        unfold Nd.midT; split
        · decide +kernel
        · rw [L_nil]; omega
      have hlit := hd.2.2
      have hnx : d.next free ≤ free + 1 := by unfold Nd.next; split <;> omega
      have hun := und_addP (l := d.pcs shp) (u := u) h4
      have hem : ∃ l, (addP P u (d.pcs shp)).lookup (Str.ofString "") = some l := und_addP (U := [Str.ofString ""]) (fun x hx => by rw [List.mem_singleton.mp hx]; exact h13) _ (.head _)
      simp only [List.length_cons] at h5 h7
      have new : ∀ x, (∃ l, (addP P u (d.pcs shp)).lookup x = some l) → ∃ l, (newP (addP P u (d.pcs shp)) shp).lookup x = some l := fun x hx => by
        unfold newP
        split
        · exact hx
        · rename_i hne
          have hs : shp = fmtT j := hsh.resolve_left hne
          rw [lk_snoc _ _ _ _ (lookup_none_keys (by rw [ek, hs]; exact hfr))]
          split
          · exact ⟨_, rfl⟩
          · exact hx
      refine { keys := ?_, kin := ?_, und := ?_, lu := by show (_ :: _ :: U).length = _; simp only [List.length_cons]; omega, ls := by show (_ :: sh).length + 1 = _; rw [List.length_cons]; omega, lt := by show (_ :: _ :: T).length = _; simp only [List.length_cons]; omega, free := by show d.next free ≤ _; omega, phi := ?_, due := ?_, psi := ?_, pl := ?_, emp := new _ hem }
      · show ((newP (addP P u (d.pcs shp)) shp).map (·.1)).Nodup
        unfold newP
        split
        · rw [ek]; exact h2
        · rename_i hne
          have hs : shp = fmtT j := hsh.resolve_left hne
          rw [List.map_append, ek, List.nodup_append]
          refine ⟨h2, by simp, fun x hx y hy q => ?_⟩
          have hy : y = shp := by simpa using hy
          rw [hy, hs] at q
          exact hfr (q ▸ hx)
      · show ∀ x ∈ (newP (addP P u (d.pcs shp)) shp).map (·.1), _
        intro x hx
        have up : (x = topT ∨ x = Str.ofString "" ∨ ∃ i, i < j ∧ x = fmtT i) → x = topT ∨ x = Str.ofString "" ∨ ∃ i, i < j + 1 ∧ x = fmtT i := fun h => by
          rcases h with h | h | ⟨i, hi, h⟩
          · exact .inl h
          · exact .inr (.inl h)
          · exact .inr (.inr ⟨i, by omega, h⟩)
        unfold newP at hx
        split at hx
        · rw [ek] at hx; exact up (h3 x hx)
        · rename_i hne
          rw [List.map_append, ek] at hx
          rcases List.mem_append.mp hx with hx | hx
          · exact up (h3 x hx)
          · have hx : x = shp := by simpa using hx
            exact .inr (.inr ⟨j, by omega, by rw [hx]; exact hsh.resolve_left hne⟩)
      · show ∀ x ∈ shp :: u :: U, ∃ l, (newP (addP P u (d.pcs shp)) shp).lookup x = some l
        intro x hx
        rcases List.mem_cons.mp hx with rfl | hx
        · rcases hsh with hs | hs
          · have q := new _ hem
            rw [← hs] at q
            exact q
          · unfold newP
            rw [if_neg (by rw [hs]; exact fmt_ne j), lk_snoc _ _ _ _ (lookup_none_keys (by rw [ek, hs]; exact hfr)), if_pos rfl]
            exact ⟨_, rfl⟩
        · exact new _ (hun x hx)
      · unfold Phi at h9 ⊢
        show ((_ :: (t ++ d.midT ++ litT d.lit) :: T).map (·.length)).sum + ((d.value free :: sh).map _).sum ≤ _
        simp only [List.map_cons, List.sum_cons, PySem.Str.length_append, L_nil] at h9 ⊢
        omega
      · show (due ++ d.pre u free ++ [_]).length + 2 * (_ :: sh).length ≤ _
        simp only [List.length_append, List.length_cons, List.length_nil]; omega
      · show ((newP (addP P u (d.pcs shp)) shp).map (·.2.length)).sum + (_ :: sh).length ≤ _
        rw [List.length_cons]
        unfold newP
        split
        · omega
        · simp only [List.map_append, List.sum_append, List.map_cons, List.map_nil, List.sum_cons, List.sum_nil, List.length_nil]; omega
      · show (newP (addP P u (d.pcs shp)) shp).length ≤ _
        unfold newP
        split
        · omega
        · rw [List.length_append]; simp only [List.length_cons, List.length_nil]; omega
-- part C10
theorem txts_unsnoc : ∀ {vs : List Value} {ys : List PySem.Str} {y : PySem.Str}, TxtsAre vs (ys ++ [y]) → ∃ ws t, vs = ws ++ [.str y t] ∧ TxtsAre ws ys
  | vs, [], y, h => by
    rw [List.nil_append] at h
    cases h with
    | cons _ t h' => cases h'; exact ⟨[], t, rfl, .nil⟩
  | vs, x :: ys, y, h => by
    rw [List.cons_append] at h
    cases h with
    | cons _ u h' =>
      obtain ⟨ws, t, rfl, hw⟩ := txts_unsnoc h'
      exact ⟨.str x u :: ws, t, rfl, .cons x u hw⟩
section
variable {prog : Program} {w : World} {A : Around} {E : Value → Shared → Prop} {h₀ : Heap} {m : PySem.Str → Option Value} {N : Led} {z : Zx} {s : Shared} {L : Addr}
theorem last_at {vs : List Value} {x : Value} : (vs ++ [x])[(-1 + ((vs ++ [x]).length : Int)).toNat]? = some x := by
  have e : (-1 + ((vs ++ [x]).length : Int)).toNat = vs.length := by rw [List.length_append]; simp only [List.length_cons, List.length_nil]; omega
  rw [e]; simp
theorem r_last {value slice : PySem.Expr} {l : Addr} {vs : List Value} {n : Nat} {u : Tok} {x : Value} {Q : Value → Shared → Prop} (I : In h₀ L m N z s) (hl : N l = some (listOf (vs ++ [x]).toArray n)) (h : Q x s)
    (hs : subscripted slice false (.ref l) (.int (-1) u) = operate [.ref l, .int (-1) u] (getItem (.ref l) (.int (-1) u)) := by with_unfolding_all rfl) :
    wpAny (model prog w) A (subscriptTail value slice (.ref l) (.int (-1) u)) Q E s :=
  r_itemNeg I hl (by decide) (by rw [List.length_append]; simp only [List.length_cons, List.length_nil]; omega) (by decide) last_at h hs
theorem r_getLast {l : Addr} {vs : List Value} {n : Nat} {u : Tok} {x : Value} {Q : Value → Shared → Prop} (I : In h₀ L m N z s) (hl : N l = some (listOf (vs ++ [x]).toArray n)) (h : Q x s) : wpAny (model prog w) A (getItem (.ref l) (.int (-1) u)) Q E s :=
  have hL : s.heap.IsList l (vs ++ [x]).toArray := ⟨_, I.get hl, rfl, _, rfl⟩
  wpAny_getItem_list_neg hL (by decide) (by simp; omega) (by decide) (by simpa using last_at (vs := vs) (x := x)) h
theorem r_pcs {w : World} {D : Addr} {od : Obj} {kvs : List (PySem.Str × Value)} {value slice : PySem.Expr} {u : PySem.Str} {t : Tok} {v : Value} {Q : Value → Shared → Prop} (I : In h₀ L m N z s) (hN : N D = some od) (hD : DictO w od kvs) (hv : valueAt kvs u = some v) (h : ∀ s', In h₀ L m N z s' → Q v s')
    (hs : subscripted slice false (.ref D) (.str u t) = operate [.ref D, .str u t] (getItem (.ref D) (.str u t)) := by with_unfolding_all rfl) :
    wpAny (model PySem.Challenge.rw_kp0026_05.prog w) A (subscriptTail value slice (.ref D) (.str u t)) Q E s :=
  r_itemD I (hD _ _ (I.get hN)).mapOf hv (fun s' I' _ => h s' I') hs
end
theorem x_ifcut {M : Model} {A : Around} {E : Value → Shared → Prop} {h₀ : Heap} {z : Zx} {s : Shared} {env : Env} {rest : List Stmt} {Q : Flow → Shared → Prop} {L : Addr} {test : PySem.Expr} {body orelse : List Stmt} {pos : Pos} (J : (PySem.Str → Option Value) → Led → Prop)
    (h : wpAny M A (isTrue test env (eval test env)) (fun b s₂ => if b = true then wpAny M A (execs body env) (fun f s' => f = .next ∧ ∃ m N, J m N ∧ In h₀ L m N z s') E s₂ else wpAny M A (execs orelse env) (fun f s' => f = .next ∧ ∃ m N, J m N ∧ In h₀ L m N z s') E s₂) E s)
    (k : ∀ m N s', J m N → In h₀ L m N z s' → wpAny M A (execs rest env) Q E s') : wpAny M A (execs (.If test body orelse pos :: rest) env) Q E s := by
  refine x_cons (wpAny_If (wpAny_mono h (fun b s₂ x => ?_) fun _ _ x => x))
  have go : ∀ f s', (f = Flow.next ∧ ∃ m N, J m N ∧ In h₀ L m N z s') → thenDo M A env rest Q E f s' := fun f s' ⟨e, m, N, hj, hi⟩ => by subst e; exact k m N s' hj hi
  split
  · rename_i hb; rw [if_pos hb] at x; exact wpAny_mono x go fun _ _ x => x
  · rename_i hb; rw [if_neg hb] at x; exact wpAny_mono x go fun _ _ x => x
-- MACROS
local macro_rules | `(tactic| walk_at "ext") => `(tactic| first
  | ((with_reducible show wpAny _ _ (getMethod (Value.ref _) (PySem.Str.ofString "pop") _) _ _ _); (refine r_listMethod (by assumption) (by assumption) PySem.F.slot_list_pop PySem.F.type_list_pop ?_))
  | ((with_reducible show wpAny _ _ (getMethod (Value.ref _) (PySem.Str.ofString "clear") _) _ _ _); (refine r_listMethod (by assumption) (by assumption) PySem.F.slot_list_clear PySem.F.type_list_clear ?_))
  | ((with_reducible show wpAny _ _ (callWith _ (Value.builtin "list.pop") _ _ _) _ _ _); (with_reducible refine PyProof.Rows.callWith_method0 ?_))
  | ((with_reducible show wpAny _ _ (callWith _ (Value.builtin "list.clear") _ _ _) _ _ _); (with_reducible refine PyProof.Rows.callWith_method0 ?_))
  | ((with_reducible show wpAny _ _ (subscriptTail _ _ (Value.ref _) (Value.int (-1) _)) _ _ _); (refine r_last (by assumption) (by assumption) ?_))
  | ((with_reducible show wpAny _ _ (subscriptTail _ _ (Value.ref _) (Value.str _ _)) _ _ _); (refine r_pcs (by assumption) (by assumption) (by assumption) (by assumption) ?_); intro _ _)
  | ((with_reducible show wpAny _ _ (getItem (Value.ref _) (Value.int (-1) _)) _ _ _); (refine r_getLast (by assumption) (by assumption) ?_))
  | ((with_reducible show wpAny _ _ (inplaceOp Operator.Add (Value.str _ _) (Value.str _ _)) _ _ _); (refine r_iaddS (by assumption) ?_ (by walk_at "sz2")); intro _ _ _)
  | ((with_reducible refine PyProof.Rows.ne_str ?_)))
-- END MACROS
theorem if_bne {x y : PySem.Str} {a b : Prop} (h : x ≠ y → a) (h' : x = y → b) : if (x != y) = true then a else b := by
  by_cases q : x = y
  · subst q; rw [bne_self_eq_false, if_neg Bool.false_ne_true]; exact h' rfl
  · have : (x != y) = true := by simpa using q
    rw [this, if_pos rfl]; exact h q
set_option maxRecDepth 100000 in
set_option maxHeartbeats 4000000 in
/-- one turn of the law's inner loop: a frame is closed -/
theorem pop_turn {w : World} {A : Around} {mg mb : PySem.Str → Option Value} {h₀ : Heap} {m : PySem.Str → Option Value} {N : Led} {z : Zx} {s : Shared} {L : Addr} {X : LA} {S : Sl} {j lv : Nat} {en : PySem.Str} {te : Tok} (G : Glo (hd.heap_1 w.params) mg mb h₀)
    (I : In h₀ L m N z s) (n : LN w X S.P S.due S.under S.shown S.texts N) (si : SI S j lv) (h2 : 2 ≤ lv) (hj : j ≤ 65) (hen : en.length ≤ 1)
    (m1 : m (Str.ofString "under") = some (.ref X.un)) (m2 : m (Str.ofString "due") = some (.ref X.due)) (m3 : m (Str.ofString "shown") = some (.ref X.sh)) (m4 : m (Str.ofString "texts") = some (.ref X.tx)) (m5 : m (Str.ofString "end") = some (.str en te)) (hcP : X.cP = L + 1 + 1 + 1 + 1) :
    wpAny (model PySem.Challenge.rw_kp0026_05.prog w) A (execs (forBody (forBody (lawB (hd.heap_1 w.params)) 12) 18) (lawE (hd.heap_1 w.params) L))
      (fun f s' => f = .next ∧ ∃ v t N', LN w X (pop1 en S).P (pop1 en S).due (pop1 en S).under (pop1 en S).shown (pop1 en S).texts N' ∧ In h₀ L (upd (upd m (Str.ofString "value") v) (Str.ofString "text") t) N' z s') (fun _ _ => False) s := by
  obtain ⟨u, U, v, Y, t, t', T, e1, e2, e3, epop, -⟩ := si.pop h2 hen
  have hphi := si.phi
  have hdue := si.due
  have hund := si.und
  have hkeys := si.keys
  have hpsi := si.psi
  have hlu := si.lu
  have hls := si.ls
  have hlx := si.lt
  rw [epop]
  obtain ⟨P, due, fault, free, under, sh, texts⟩ := S
  dsimp only at e1 e2 e3 n hphi hdue hund hkeys hpsi hlu hls hlx ⊢
  subst e1 e2 e3
  unfold Phi at hphi
  simp only [List.map_cons, List.sum_cons, List.length_cons] at hphi hdue hpsi hlu hls hlx
  refine' seg_go (b := _ :: _) (fun b => forBody (forBody b 12) 18) ?ho ?e ?_
  case ho => k_is
  case e => with_unfolding_all rfl
  intro ev QQ
  have hlv : t.length ≤ 20000 := by omega
  have hlt : t'.length ≤ 20000 := by omega
  have hlw : v.length ≤ 20000 := by omega
  refine letG ?_
  intro GG
  obtain ⟨pl, hpl⟩ := hund u (.head _)
  have hpll := look_le hpl
  obtain ⟨oP, hoP, hdP⟩ := n.cP
  rw [hcP] at hoP
  obtain ⟨uvs, uk, hun, hut⟩ := n.un
  rw [List.reverse_cons] at hut
  obtain ⟨uws, ut, rfl, huw⟩ := txts_unsnoc hut
  refine x_ifcut (h₀ := h₀) (L := L) (z := z) (fun m' N' => m' = m ∧ LN w X (endP en P u) due (u :: U) (v :: Y) (t :: t' :: T) N') ?_ ?_
  · refine letQ ?_
    intro QJ
    walk_at "gs"
    refine if_bne (fun hne => ?_) (fun he => ?_)
    · refine x_cons (wpAny_Expr_any ?_ (by with_unfolding_all rfl) (by with_unfolding_all rfl))
      refine letG ?_
      intro GG
      obtain ⟨od, ks, a, vs, k, hod, hD, hval, ha, hvl, hadd⟩ := n.pcAdd hkeys hpl
      walk_at "gs"
      rename_i b s5 hb _ I5
      refine r_append I5 (Led.put_of ha hb) ?_ (by show _ ≤ 16777216; omega)
      intro s6 k6 I6
      walk_at "gs"
      refine ⟨rfl, m, _, ⟨rfl, ?_⟩, I6⟩
      unfold endP
      rw [if_neg hne]
      exact hadd _ (Led.le_put hb) _ _ _ ⟨b, _, rfl, Led.put_same, .cons OptIs.s (.cons OptIs.n (.cons OptIs.n (.cons OptIs.n .nil)))⟩
    · refine letQ ?_
      intro QJ
      walk_at "gs"
      refine ⟨rfl, m, N, ⟨rfl, ?_⟩, by assumption⟩
      unfold endP
      rw [if_pos he]
      exact n
  · rintro m' N1 s1 ⟨rfl, n1⟩ I1
    clear I n hoP hun
    refine x_cons (wpAny_Expr_any ?_ (by with_unfolding_all rfl) (by with_unfolding_all rfl))
    refine letG ?_
    intro GG
    obtain ⟨uvs, uk, hun, hut⟩ := n1.un
    rw [List.reverse_cons] at hut
    obtain ⟨uws, ut, rfl, huw⟩ := txts_unsnoc hut
    obtain ⟨dvs, dk, hdu, hdr⟩ := n1.due
    have hdl : dvs.length ≤ 2000 := by rw [hdr.length, List.length_map]; omega
    have hul : uws.length ≤ 2000 := by rw [txts_len huw, List.length_reverse]; omega
    walk_at "gs"
    refine r_pop (by assumption) hun ?_ (by omega)
    intro s2 k2 I2
    refine letG ?_
    intro GG
    obtain ⟨N2, n2, J2⟩ := In.forget I2 (fun N => LN w X (endP en P u) due U (v :: Y) (t :: t' :: T) N) (n1.setUn hun huw)
    clear I1 I2 n1 hun hdu hdr hdl
    obtain ⟨dvs, dk, hdu, hdr⟩ := n2.due
    have hdl : dvs.length ≤ 2000 := by rw [hdr.length, List.length_map]; omega
    walk_at "gs"
    rename_i b s3 hb _ I3
    refine r_append I3 (Led.put_of hdu hb) ?_ (by show _ ≤ 16777216; omega)
    intro s4 k4 I4
    refine letG ?_
    intro GG
    obtain ⟨N4, n4, J4⟩ := In.forget I4 (fun N => LN w X (endP en P u) (due ++ [.piece u]) U (v :: Y) (t :: t' :: T) N) ((n2.le (Led.le_put hb)).setDue (Led.put_of hdu hb) (by
      rw [List.map_append]
      exact (RowsAre.mono (TupLe.of (Led.le_put hb)) hdr).append (.cons ⟨b, _, rfl, Led.put_same, .cons OptIs.s (.cons OptIs.s .nil)⟩ .nil)))
    clear I3 I4 J2 n2 hdu hdr hdl hb
    refine then_next ?_
    refine letG ?_
    intro GG
    obtain ⟨svs, sk, hsh, hst⟩ := n4.sh
    rw [List.reverse_cons] at hst
    obtain ⟨sws, st, rfl, hsw⟩ := txts_unsnoc hst
    have hsl : sws.length ≤ 2000 := by rw [txts_len hsw, List.length_reverse]; omega
    walk_at "gs"
    refine r_pop (by assumption) hsh ?_ (by omega)
    intro s5 k5 I5
    refine letG ?_
    intro GG
    obtain ⟨N5, n5, J5⟩ := In.forget I5 (fun N => LN w X (endP en P u) (due ++ [.piece u]) U Y (t :: t' :: T) N) (n4.setSh hsh hsw)
    clear I5 J4 n4 hsh
    obtain ⟨tvs, tk, htx, htt⟩ := n5.tx
    rw [List.reverse_cons] at htt
    obtain ⟨tws, tt, rfl, htw⟩ := txts_unsnoc htt
    have htl : tws.length ≤ 2000 := by rw [txts_len htw, List.length_reverse, List.length_cons]; omega
    walk_at "gs"
    refine r_pop (by assumption) htx ?_ (by omega)
    intro s6 k6 I6
    refine letG ?_
    intro GG
    obtain ⟨N6, n6, J6⟩ := In.forget I6 (fun N => LN w X (endP en P u) (due ++ [.piece u]) U Y (t' :: T) N) (n5.setTx htx htw)
    clear I6 J5 n5 htx
    obtain ⟨dvs, dk, hdu, hdr⟩ := n6.due
    have hdl : dvs.length ≤ 2000 := by rw [hdr.length, List.length_map, List.length_append]; simp only [List.length_cons, List.length_nil]; omega
    walk_at "gs"
    refine x_cons (wpAny_Expr_any ?_ (by with_unfolding_all rfl) (by with_unfolding_all rfl))
    walk_at "gs"
    rename_i b s7 hb _ I7
    refine r_append I7 (Led.put_of hdu hb) ?_ (by show _ ≤ 16777216; omega)
    intro s8 k8 I8
    refine letG ?_
    intro GG
    obtain ⟨N8, n8, J8⟩ := In.forget I8 (fun N => LN w X (endP en P u) (due ++ [.piece u] ++ [.format v (t ++ en)]) U Y (t' :: T) N) ((n6.le (Led.le_put hb)).setDue (Led.put_of hdu hb) (by
      rw [List.map_append]
      exact (RowsAre.mono (TupLe.of (Led.le_put hb)) hdr).append (.cons ⟨b, _, rfl, Led.put_same, .cons OptIs.s (.cons OptIs.s (.cons OptIs.s .nil))⟩ .nil)))
    clear I7 I8 J6 n6 hdu hdr hdl hb
    refine then_next ?_
    refine letG ?_
    intro GG
    obtain ⟨tvs, tk, htx, htt⟩ := n8.tx
    rw [List.reverse_cons] at htt
    obtain ⟨tws', tt', rfl, htw'⟩ := txts_unsnoc htt
    refine x_cons (wpAny_AugAssign_SubscriptAny ?_ (by intros; with_unfolding_all rfl))
    walk_at "gs"
    refine r_setNeg (by assumption) htx ?_
    intro s9 k9 I9
    walk_at "gs"
    refine ⟨rfl, _, _, _, ?_, I9⟩
    have e : due ++ [Ev.piece u, Ev.format v (t ++ en)] = due ++ [Ev.piece u] ++ [Ev.format v (t ++ en)] := by rw [List.append_assoc]; rfl
    rw [e]
    refine n8.setTx htx ?_
    rw [List.reverse_cons]
    exact txts_snoc htw'
-- part C11
-- MACROS
local macro_rules | `(tactic| walk_at "gn") => `(tactic| repeat ((fail_if_success (with_reducible show wpAny _ _ (execs (PySem.Stmt.If _ _ _ _ :: _) _) _ _ _)); walk_at "g1"))
-- END MACROS
theorem r_lenL {prog : Program} {w : World} {A : Around} {E : Value → Shared → Prop} {h₀ : Heap} {m : PySem.Str → Option Value} {N : Led} {z : Zx} {s : Shared} {L : Addr} {l : Addr} {vs : List Value} {n : Nat} {Q : Value → Shared → Prop} (I : In h₀ L m N z s) (hl : N l = some (listOf vs.toArray n)) (hz : vs.length ≤ 1000000)
    (h : ∀ t s', In h₀ L m N z s' → 0 < s'.toks → Q (.int (vs.length : Int) t) s') : wpAny (model prog w) A (call (.builtin "len") [.ref l]) Q E s := by
  refine PyProof.Rows.len_list ⟨_, I.get hl, rfl, _, rfl⟩ (by rw [List.size_toArray]; omega) ?_
  rw [List.size_toArray]
  exact h _ _ (I.toks _) (Nat.succ_pos _)
noncomputable def FaultIs : Value → Option Nat → Prop
  | .none, none => True
  | .int i _, some n => i = n
  | _, _ => False
theorem FaultIs.of_none {v : Value} (h : FaultIs v none) : v = .none := by cases v <;> first | rfl | exact h.elim
theorem FaultIs.of_some {v : Value} {n : Nat} (h : FaultIs v (some n)) : ∃ t, v = .int (n : Int) t := by
  cases v with
  | int i t => have h : i = n := h; subst h; exact ⟨t, rfl⟩
  | _ => exact h.elim
/-- the names of the law's frame that its loop uses -/
structure LM (X : LA) (depth : Int) (td : Tok) (en : PySem.Str) (te : Tok) (fault : Option Nat) (free : Nat) (m : PySem.Str → Option Value) : Prop where
  row : m (Str.ofString "row") = some (.ref X.row)
  lev : m (Str.ofString "levels") = some (.ref X.lev)
  dep : m (Str.ofString "depth") = some (.int depth td)
  en : m (Str.ofString "end") = some (.str en te)
  due : m (Str.ofString "due") = some (.ref X.due)
  un : m (Str.ofString "under") = some (.ref X.un)
  sh : m (Str.ofString "shown") = some (.ref X.sh)
  tx : m (Str.ofString "texts") = some (.ref X.tx)
  fault : ∃ v, m (Str.ofString "fault") = some v ∧ FaultIs v fault
  free : ∃ t, m (Str.ofString "free") = some (.int (free : Int) t)
theorem markAt {a b c d : Value} {k : Int} (h0 : 0 ≤ k) (h1 : k < 4) (ha : OptIs a none) (hb : OptIs b (some (Str.ofString "s"))) (hc : OptIs c (some (Str.ofString "r"))) (hd : OptIs d (some (Str.ofString "?"))) : ∃ v, [a, b, c, d][k.toNat]? = some v ∧ OptIs v (markOf k) := by
  have h : k = 0 ∨ k = 1 ∨ k = 2 ∨ k = 3 := by omega
  rcases h with rfl | rfl | rfl | rfl
  · exact ⟨a, rfl, ha⟩
  · exact ⟨b, rfl, hb⟩
  · exact ⟨c, rfl, hc⟩
  · exact ⟨d, rfl, hd⟩
theorem litAt {a b c d : Value} {k : Int} (h0 : 0 ≤ k) (h1 : k < 4) (ha : OptIs a (some (Str.ofString ""))) (hb : OptIs b (some (Str.ofString "one"))) (hc : OptIs c none) (hd : OptIs d (some (Str.ofString "{}"))) : ∃ v, [a, b, c, d][k.toNat]? = some v ∧ OptIs v (litOf k) := by
  have h : k = 0 ∨ k = 1 ∨ k = 2 ∨ k = 3 := by omega
  rcases h with rfl | rfl | rfl | rfl
  · exact ⟨a, rfl, ha⟩
  · exact ⟨b, rfl, hb⟩
  · exact ⟨c, rfl, hc⟩
  · exact ⟨d, rfl, hd⟩
theorem r_pick4 {prog : Program} {w : World} {A : Around} {E : Value → Shared → Prop} {h₀ : Heap} {m : PySem.Str → Option Value} {N : Led} {z : Zx} {s : Shared} {L : Addr} {value slice : PySem.Expr} {l : Addr} {a b c d : Value} {n : Nat} {k : Int} {u : Tok} {Q : Value → Shared → Prop} (I : In h₀ L m N z s) (hl : N l = some (listOf [a, b, c, d].toArray n)) (h0 : 0 ≤ k) (h1 : k < 4) (P : Value → Prop)
    (hx : ∃ v, [a, b, c, d][k.toNat]? = some v ∧ P v) (h : ∀ v, P v → Q v s) (hs : subscripted slice false (.ref l) (.int k u) = operate [.ref l, .int k u] (getItem (.ref l) (.int k u)) := by with_unfolding_all rfl) :
    wpAny (model prog w) A (subscriptTail value slice (.ref l) (.int k u)) Q E s := by
  obtain ⟨v, h2, h3⟩ := hx
  exact r_itemL I hl h0 (by omega) h2 (h v h3) hs
theorem fmod4 (k : Int) : 0 ≤ k.fmod 4 ∧ k.fmod 4 < 4 := by
  rw [Int.fmod_eq_emod_of_nonneg _ (by decide)]; omega
theorem ints_val : ∀ {vs : List Value} {ns : List Int} {i : Nat} {k : Int}, IntsAre vs ns → ns[i]? = some k → ∃ t, vs[i]? = some (.int k t)
  | _, _, 0, _, .cons n t _, e => by simp at e; subst e; exact ⟨t, rfl⟩
  | _, _, i + 1, _, .cons _ _ h, e => by simpa using ints_val (i := i) h (by simpa using e)
/-- what the law reads from one number of its row -/
structure Rd (X : LA) (row lvs : List Int) (j lv bl : Nat) (x : Int) : Prop where
  rows : IntsAre X.rvs row
  levs : IntsAre X.lvs lvs
  len : lvs.length = row.length
  small : row.length ≤ 65
  x : row[j]? = some x
  lev : lvs[j]? = some (lv : Int)
  below : if j + 1 < row.length then lvs[j + 1]? = some (bl : Int) else bl = 1
  lv1 : 1 ≤ lv
  bl1 : 1 ≤ bl
  le : bl ≤ lv + 1
theorem popN_last (en : PySem.Str) : ∀ (k : Nat) (S : Sl), popN en (k + 1) S = pop1 en (popN en k S)
  | 0, _ => rfl
  | k + 1, S => by rw [popN, popN_last en k (pop1 en S)]; rfl
theorem pop1_fault (en : PySem.Str) (S : Sl) : (pop1 en S).fault = S.fault := by unfold pop1; split <;> rfl
theorem pop1_free (en : PySem.Str) (S : Sl) : (pop1 en S).free = S.free := by unfold pop1; split <;> rfl
theorem LM.other {X : LA} {depth : Int} {td te : Tok} {en : PySem.Str} {fault : Option Nat} {free : Nat} {m : PySem.Str → Option Value} (M : LM X depth td en te fault free m) {y : PySem.Str} (v : Value)
    (hy : y ∉ [Str.ofString "row", Str.ofString "levels", Str.ofString "depth", Str.ofString "end", Str.ofString "due", Str.ofString "under", Str.ofString "shown", Str.ofString "texts", Str.ofString "fault", Str.ofString "free"]) : LM X depth td en te fault free (upd m y v) := by
  simp only [List.mem_cons, List.not_mem_nil, or_false, not_or] at hy
  obtain ⟨y1, y2, y3, y4, y5, y6, y7, y8, y9, y10⟩ := hy
  obtain ⟨q1, q2, q3, q4, q5, q6, q7, q8, ⟨fv, q9, q9'⟩, ⟨tf, q10⟩⟩ := M
  exact ⟨upd_ne (Ne.symm y1) q1, upd_ne (Ne.symm y2) q2, upd_ne (Ne.symm y3) q3, upd_ne (Ne.symm y4) q4, upd_ne (Ne.symm y5) q5, upd_ne (Ne.symm y6) q6, upd_ne (Ne.symm y7) q7, upd_ne (Ne.symm y8) q8, ⟨fv, upd_ne (Ne.symm y9) q9, q9'⟩, ⟨tf, upd_ne (Ne.symm y10) q10⟩⟩
set_option maxRecDepth 100000 in
set_option maxHeartbeats 8000000 in
/-- the inner loop of a turn -/
theorem law_turn3 {w : World} {A : Around} {mg mb : PySem.Str → Option Value} {h₀ : Heap} {m : PySem.Str → Option Value} {N : Led} {z : Zx} {s : Shared} {L : Addr} {X : LA} {S : Sl} {row lvs : List Int} {j lv bl : Nat} {x depth : Int} {en : PySem.Str} {td te tj tb : Tok} (G : Glo (hd.heap_1 w.params) mg mb h₀) (hh : A.handled = none)
    (I : In h₀ L m N z s) (n : LN w X S.P S.due S.under S.shown S.texts N) (si : SI S (j + 1) (lv + 1)) (M : LM X depth td en te S.fault S.free m) (mbl : m (Str.ofString "below") = some (.int (bl : Int) tb)) (mj : m (Str.ofString "j") = some (.int (j : Int) tj)) (rd : Rd X row lvs j lv bl x) (hen : en.length ≤ 1) (hcP : X.cP = L + 1 + 1 + 1 + 1) :
    wpAny (model PySem.Challenge.rw_kp0026_05.prog w) A (execs ((forBody (lawB (hd.heap_1 w.params)) 12).drop 18) (lawE (hd.heap_1 w.params) L))
      (fun f s' => f = .next ∧ ∃ m' N', LN w X (popN en (lv + 1 - bl) S).P (popN en (lv + 1 - bl) S).due (popN en (lv + 1 - bl) S).under (popN en (lv + 1 - bl) S).shown (popN en (lv + 1 - bl) S).texts N' ∧
        LM X depth td en te (popN en (lv + 1 - bl) S).fault (popN en (lv + 1 - bl) S).free m' ∧ SI (popN en (lv + 1 - bl) S) (j + 1) bl ∧ In h₀ L m' N' z s') (fun _ _ => False) s := by
  have hj : j < 65 := by have h1 := (List.getElem?_eq_some_iff.mp rd.x).1; have h2 := rd.small; omega
  have hbl := rd.bl1
  have hle := rd.le
  have hlv1 := rd.lv1
  have hlu := si.lu
  have hls := si.ls
  have hdu := si.due
  obtain ⟨q1, q2, q3, q4, q5, q6, q7, q8, ⟨fv, q9, q9'⟩, ⟨tf, q10⟩⟩ := id M
  obtain ⟨lk, hlev⟩ := n.lev
  obtain ⟨tl, hl⟩ := ints_val rd.levs rd.lev
  refine' seg_go (b := _ :: _) (fun b => (forBody b 12).drop 18) ?ho ?e ?_
  case ho => k_is
  case e => with_unfolding_all rfl
  intro ev QQ
  refine x_for (wpAny_For ?_ (by intro _; with_unfolding_all rfl))
  walk_at "gs"
  refine r_builtin G (by assumption) (by k_is) PyProof.Rows.Boot.«range» ?_
  walk_at "gs"
  refine r_itemL (by assumption) hlev (by omega) (by omega) (v := .int (lv : Int) tl) (by simpa using hl) ?_ (by with_unfolding_all rfl)
  walk_at "gs"
  have e : (lv : Int) - (bl : Int) + 1 = ((lv + 1 - bl : Nat) : Int) := by omega
  rw [e]
  refine r_range (by assumption) ?_
  intro r u v s5 I5 hr
  refine r_iterRN (fun k m' N' => LN w X (popN en k S).P (popN en k S).due (popN en k S).under (popN en k S).shown (popN en k S).texts N' ∧ LM X depth td en te (popN en k S).fault (popN en k S).free m' ∧ SI (popN en k S) (j + 1) (lv + 1 - k)) hh I5 hr (by omega) ⟨n, M, si⟩ ?turn ?done
  case done =>
    rintro m6 N6 s6 ⟨n6, M6, si6⟩ I6
    have eb : lv + 1 - (lv + 1 - bl) = bl := by omega
    rw [eb] at si6
    refine then_next (x_nil ?_)
    exact ⟨rfl, m6, N6, n6, M6, si6, I6⟩
  rintro k tk m6 N6 z6 s6 hk ⟨n6, M6, si6⟩ hz I6
  refine r_store I6 (fun s7 I7 => ?_)
  have M7 := M6.other (y := Str.ofString "k") (.int (k : Int) tk) (by decide +kernel)
  refine letG ?_
  intro GG
  obtain ⟨u, U, v, Y, t, t', T, e1, e2, e3, epop, si7⟩ := si6.pop (by omega) hen
  refine' seg_back (K := hd.heap_1 w.params) (fun b => forBody (forBody b 12) 18) ?ho2 ?e2 ?_
  case ho2 => k_is
  case e2 => with_unfolding_all rfl
  refine wpAny_mono (pop_turn G I7 n6 si6 (by omega) (by omega) hen M7.un M7.due M7.sh M7.tx M7.en hcP) (fun f s8 y => ?_) (fun _ _ y => y)
  refine letG ?_
  intro GG
  obtain ⟨rfl, v8, t8, N8, n8, I8⟩ := y
  refine ⟨_, N8, ?_, I8⟩
  rw [popN_last]
  refine ⟨n8, ?_, ?_⟩
  · rw [pop1_fault, pop1_free]
    exact (M7.other (y := Str.ofString "value") v8 (by decide +kernel)).other (y := Str.ofString "text") t8 (by decide +kernel)
  · have e9 : lv + 1 - (k + 1) = lv + 1 - k - 1 := by omega
    rw [e9]
    exact si7
theorem LN.due3 {w : World} {X : LA} {P : List (PySem.Str × List Pc)} {due : List Ev} {un sh tx : List PySem.Str} {N : Led} (n : LN w X P due un sh tx N) {b1 b2 b3 b4 : Addr} {v1 v2 v3 : List Value} {o4 : Obj} {vs : List Value} {k k' : Nat} {e1 e2 e3 : Ev} (h1 : N b1 = none) (h2 : (N.put b1 (tupleOf v1.toArray)) b2 = none) (h3 : ((N.put b1 (tupleOf v1.toArray)).put b2 (tupleOf v2.toArray)) b3 = none)
    (h4 : (((N.put b1 (tupleOf v1.toArray)).put b2 (tupleOf v2.toArray)).put b3 (tupleOf v3.toArray)) b4 = none) (hdu : N X.due = some (listOf vs.toArray k)) (hdr : RowsAre N vs (due.map evR)) (r1 : All2 OptIs v1 (evR e1)) (r2 : All2 OptIs v2 (evR e2)) (r3 : All2 OptIs v3 (evR e3)) :
    LN w X P (due ++ [e1, e2, e3]) un sh tx (((((N.put b1 (tupleOf v1.toArray)).put b2 (tupleOf v2.toArray)).put b3 (tupleOf v3.toArray)).put b4 o4).put X.due (listOf (vs ++ [Value.ref b1, Value.ref b2, Value.ref b3]).toArray k')) := by
  have l : Led.Le N ((((N.put b1 (tupleOf v1.toArray)).put b2 (tupleOf v2.toArray)).put b3 (tupleOf v3.toArray)).put b4 o4) := (((Led.le_put h1).trans (Led.le_put h2)).trans (Led.le_put h3)).trans (Led.le_put h4)
  refine (n.le l).setDue (l _ _ hdu) ?_
  rw [List.map_append]
  refine (RowsAre.mono (TupLe.of l) hdr).append (.cons ⟨b1, v1, rfl, ?_, r1⟩ (.cons ⟨b2, v2, rfl, ?_, r2⟩ (.cons ⟨b3, v3, rfl, ?_, r3⟩ .nil)))
  · exact Led.put_of (Led.put_of (Led.put_of Led.put_same h2) h3) h4
  · exact Led.put_of (Led.put_of Led.put_same h3) h4
  · exact Led.put_of Led.put_same h4
theorem in4 {w : World} {A : Around} {E : Value → Shared → Prop} {h₀ : Heap} {m : PySem.Str → Option Value} {N : Led} {z : Zx} {s : Shared} {L : Addr} {X : LA} {P : List (PySem.Str × List Pc)} {due : List Ev} {un sh tx : List PySem.Str} (n : LN w X P due un sh tx N) {b1 b2 b3 b4 : Addr} {v1 v2 v3 : List Value} {n4 : Nat} {e1 e2 e3 : Ev} {Q : Value → Shared → Prop}
    (I : In h₀ L m ((((N.put b1 (tupleOf v1.toArray)).put b2 (tupleOf v2.toArray)).put b3 (tupleOf v3.toArray)).put b4 (listOf [Value.ref b1, Value.ref b2, Value.ref b3].toArray n4)) z s) (h1 : N b1 = none) (h2 : (N.put b1 (tupleOf v1.toArray)) b2 = none) (h3 : ((N.put b1 (tupleOf v1.toArray)).put b2 (tupleOf v2.toArray)) b3 = none)
    (h4 : (((N.put b1 (tupleOf v1.toArray)).put b2 (tupleOf v2.toArray)).put b3 (tupleOf v3.toArray)) b4 = none) (r1 : All2 OptIs v1 (evR e1)) (r2 : All2 OptIs v2 (evR e2)) (r3 : All2 OptIs v3 (evR e3)) (hz : due.length ≤ 10000)
    (h : ∀ s' N', LN w X P (due ++ [e1, e2, e3]) un sh tx N' → In h₀ L m N' z s' → Q (.ref X.due) s') : wpAny (model PySem.Challenge.rw_kp0026_05.prog w) A (inplaceOp .Add (.ref X.due) (.ref b4)) Q E s := by
  obtain ⟨vs, k, hdu, hdr⟩ := n.due
  have hl : vs.length = due.length := by rw [hdr.length, List.length_map]
  refine r_iaddL I (Led.put_of (Led.put_of (Led.put_of (Led.put_of hdu h1) h2) h3) h4) Led.put_same (fun s' k' I' => h s' _ (n.due3 h1 h2 h3 h4 hdu hdr r1 r2 r3) I') (by rw [hl]; simp only [List.length_cons, List.length_nil]; omega)
noncomputable def midP (d : Nd) : List Pc := if d.mid then [⟨some (Str.ofString "mid"), none, none, none⟩] else []
theorem pcs_mid (d : Nd) (sh : PySem.Str) : d.pcs sh = midP d ++ [⟨d.lit, some d.name, some sh, d.mark⟩] := rfl
theorem addP_nil (P : List (PySem.Str × List Pc)) (u : PySem.Str) : addP P u [] = P := by
  unfold addP
  have : (fun x : PySem.Str × List Pc => if x.1 = u then (x.1, x.2 ++ []) else x) = id := by funext x; by_cases h : x.1 = u <;> simp [h]; rw [← h]
  rw [this, List.map_id]
theorem addP_two (P : List (PySem.Str × List Pc)) (u : PySem.Str) (l r : List Pc) : addP (addP P u l) u r = addP P u (l ++ r) := by
  unfold addP
  rw [List.map_map]
  refine List.map_congr_left fun x _ => ?_
  show (if (if x.1 = u then (x.1, x.2 ++ l) else x).1 = u then _ else _) = _
  by_cases h : x.1 = u <;> simp [h]
set_option maxRecDepth 100000 in
set_option maxHeartbeats 8000000 in
/-- the second half of a turn: what is read is laid down -/
theorem law_turn2 {w : World} {A : Around} {mg mb : PySem.Str → Option Value} {h₀ : Heap} {m : PySem.Str → Option Value} {N : Led} {z : Zx} {s : Shared} {L : Addr} {X : LA} {S : Sl} {row lvs : List Int} {j lv bl : Nat} {x depth : Int} {en : PySem.Str} {td te tj ta tn ts tb tsh : Tok} {mv litv : Value} (G : Glo (hd.heap_1 w.params) mg mb h₀) (hh : A.handled = none)
    (I : In h₀ L m N z s) (n : LN w X S.P S.due S.under S.shown S.texts N) (si : SI S j lv) (M : LM X depth td en te S.fault ((ndOf j x).next S.free) m) (ma : m (Str.ofString "asked") = some (.str ((ndOf j x).asked S.free) ta)) (mn : m (Str.ofString "name") = some (.str (ndOf j x).name tn)) (ms : m (Str.ofString "size") = some (.int (x.fdiv 3) ts)) (mbl : m (Str.ofString "below") = some (.int (bl : Int) tb))
    (mmk : m (Str.ofString "mark") = some mv) (hmv : OptIs mv (ndOf j x).mark) (mlt : m (Str.ofString "literal") = some litv) (hlv : OptIs litv (ndOf j x).lit) (msh : m (Str.ofString "shape") = some (.str ((ndOf j x).shape (decide (bl ≤ lv))) tsh)) (mj : m (Str.ofString "j") = some (.int (j : Int) tj)) (rd : Rd X row lvs j lv bl x) (hen : en.length ≤ 1) (hcP : X.cP = L + 1 + 1 + 1 + 1) :
    wpAny (model PySem.Challenge.rw_kp0026_05.prog w) A (execs ((forBody (lawB (hd.heap_1 w.params)) 12).drop 8) (lawE (hd.heap_1 w.params) L))
      (fun f s' => f = .next ∧ ∃ m' N', LN w X (turnP en depth S (ndOf j x, lv) bl).P (turnP en depth S (ndOf j x, lv) bl).due (turnP en depth S (ndOf j x, lv) bl).under (turnP en depth S (ndOf j x, lv) bl).shown (turnP en depth S (ndOf j x, lv) bl).texts N' ∧
        LM X depth td en te (turnP en depth S (ndOf j x, lv) bl).fault (turnP en depth S (ndOf j x, lv) bl).free m' ∧ SI (turnP en depth S (ndOf j x, lv) bl) (j + 1) bl ∧ In h₀ L m' N' z s') (fun _ _ => False) s := by
  have hj : j < 65 := by have h1 := (List.getElem?_eq_some_iff.mp rd.x).1; have h2 := rd.small; omega
  have hok : OkN (ndOf j x) := ⟨by show j < 100; omega, mark_len _, lit_len _⟩
  have hdj : (ndOf j x).j = j := rfl
  have hmid : (ndOf j x).mid = decide (((x.fdiv 3).fdiv 64).fmod 2 = 1) := rfl
  obtain ⟨u, U, t, T, e1, e2, epush, siP⟩ := si.push (depth := depth) (leaf := decide (bl ≤ lv)) rd.lv1 hok hdj hj
  have et : ∀ S, turnP en depth S (ndOf j x, lv) bl = popN en (lv + 1 - bl) (push depth lv (ndOf j x) ((ndOf j x).shape (decide (bl ≤ lv))) S) := fun _ => rfl
  rw [et]
  have hsh := shape_is (ndOf j x) (decide (bl ≤ lv))
  rw [hdj] at hsh
  clear et
  generalize ndOf j x = d at *
  generalize d.shape (decide (bl ≤ lv)) = shp at *
  have hfresh := si.fresh hj
  have hphi := si.phi
  have hdue := si.due
  have hund := si.und
  have hkeys := si.keys
  have hpsi := si.psi
  have hlu := si.lu
  have hls := si.ls
  have hlx := si.lt
  have hfree := si.free
  have hPl := si.pl
  clear si
  generalize push depth lv d shp S = S1 at *
  obtain ⟨P, due, fault, free, under, sh, texts⟩ := S
  dsimp only at e1 e2 n M hphi hdue hund hkeys hpsi hlu hls hlx hfree hPl ma hfresh epush
  subst e1 e2
  unfold Phi at hphi
  simp only [List.map_cons, List.sum_cons, List.length_cons] at hphi hdue hpsi hlu hls hlx
  have hlt : t.length ≤ 20000 := by omega
  obtain ⟨q1, q2, q3, q4, q5, q6, q7, q8, ⟨fv, q9, q9'⟩, ⟨tf, q10⟩⟩ := id M
  obtain ⟨pl, hpl⟩ := hund u (.head _)
  have hpll := look_le hpl
  obtain ⟨oP, hoP, hdP⟩ := n.cP
  rw [hcP] at hoP
  obtain ⟨uvs, uk, hun, hut⟩ := n.un
  rw [List.reverse_cons] at hut
  obtain ⟨uws, ut, rfl, huw⟩ := txts_unsnoc hut
  refine' seg_go (b := _ :: _) (fun b => (forBody b 12).drop 8) ?ho ?e ?_
  case ho => k_is
  case e => with_unfolding_all rfl
  intro ev QQ
  refine x_ifcut (h₀ := h₀) (L := L) (z := z) (fun m' N' => m' = m ∧ LN w X (addP P u (midP d)) (due ++ d.midEv u) (u :: U) sh ((t ++ d.midT) :: T) N') ?_ ?_
  · refine letQ ?_
    intro QJ
    walk_at "gs"
    refine if_beq (fun h1 => ?_) (fun h0 => ?_)
    · have hm : d.mid = true := by rw [hmid]; exact decide_eq_true h1
      unfold midP Nd.midEv Nd.midT
      rw [if_pos hm, if_pos hm, if_pos hm]
      refine x_cons (wpAny_Expr_any ?_ (by with_unfolding_all rfl) (by with_unfolding_all rfl))
      refine letG ?_
      intro GG
      obtain ⟨od, ks, a, vs, k, hod, hD, hval, ha, hvl, hadd⟩ := n.pcAdd hkeys hpl
      walk_at "gs"
      rename_i b s5 hb _ I5
      refine r_append I5 (Led.put_of ha hb) ?_ (by show _ ≤ 16777216; omega)
      intro s6 k6 I6
      refine letG ?_
      intro GG
      obtain ⟨N6, n6, J6⟩ := In.forget I6 (fun N => LN w X (addP P u [⟨some (Str.ofString "mid"), none, none, none⟩]) due (u :: U) sh (t :: T) N) (hadd _ (Led.le_put hb) _ _ _ ⟨b, _, rfl, Led.put_same, .cons OptIs.s (.cons OptIs.n (.cons OptIs.n (.cons OptIs.n .nil)))⟩)
      clear I5 I6 hadd ha hb
      refine then_next ?_
      refine x_cons (wpAny_Expr_any ?_ (by with_unfolding_all rfl) (by with_unfolding_all rfl))
      refine letG ?_
      intro GG
      obtain ⟨uvs2, uk2, hun2, hut2⟩ := n6.un
      rw [List.reverse_cons] at hut2
      obtain ⟨uws2, ut2, rfl, huw2⟩ := txts_unsnoc hut2
      obtain ⟨dvs, dk, hdu, hdr⟩ := n6.due
      have hdl : dvs.length ≤ 2000 := by rw [hdr.length, List.length_map]; omega
      walk_at "gs"
      rename_i b s7 hb _ I7
      refine r_append I7 (Led.put_of hdu hb) ?_ (by show _ ≤ 16777216; omega)
      intro s8 k8 I8
      refine letG ?_
      intro GG
      obtain ⟨N8, n8, J8⟩ := In.forget I8 (fun N => LN w X (addP P u [⟨some (Str.ofString "mid"), none, none, none⟩]) (due ++ [.piece u]) (u :: U) sh (t :: T) N) ((n6.le (Led.le_put hb)).setDue (Led.put_of hdu hb) (by
        rw [List.map_append]
        exact (RowsAre.mono (TupLe.of (Led.le_put hb)) hdr).append (.cons ⟨b, _, rfl, Led.put_same, .cons OptIs.s (.cons OptIs.s .nil)⟩ .nil)))
      clear I7 I8 J6 n6 hdu hdr hdl hb hun2
      refine then_next ?_
      refine letG ?_
      intro GG
      obtain ⟨tvs, tk, htx, htt⟩ := n8.tx
      rw [List.reverse_cons] at htt
      obtain ⟨tws, tt, rfl, htw⟩ := txts_unsnoc htt
      refine x_cons (wpAny_AugAssign_SubscriptAny ?_ (by intros; with_unfolding_all rfl))
      walk_at "gs"
      refine r_setNeg (by assumption) htx ?_
      intro s9 k9 I9
      walk_at "gs"
      refine ⟨rfl, m, _, ⟨rfl, ?_⟩, I9⟩
      refine n8.setTx htx ?_
      rw [List.reverse_cons]
      exact txts_snoc htw
    · have hm : d.mid = false := by rw [hmid]; exact decide_eq_false h0
      unfold midP Nd.midEv Nd.midT
      simp only [hm, Bool.false_eq_true, if_false]
      rw [addP_nil, List.append_nil, sapp_nil]
      walk_at "gs"
      exact ⟨rfl, m, N, ⟨rfl, n⟩, by assumption⟩
  rintro m1 N1 s1 ⟨em, n1⟩ I1
  subst em
  clear n hun I
  have hk1 : ((addP P u (midP d)).map (·.1)).Nodup := by rw [addP_keys]; exact hkeys
  refine letG ?_
  intro GG
  obtain ⟨pl1, hpl1⟩ : ∃ l, (addP P u (midP d)).lookup u = some l := und_addP (U := [u]) (fun y hy => by rw [List.mem_singleton.mp hy]; exact ⟨_, hpl⟩) _ (.head _)
  have hml : (midP d).length ≤ 1 := by unfold midP; split <;> simp
  have hpl1l : pl1.length ≤ 3000 := by have h1 := look_le hpl1; have h2 := addP_sum (P := P) (u := u) (l := midP d) hkeys; omega
  have eP : addP (addP P u (midP d)) u [⟨d.lit, some d.name, some shp, d.mark⟩] = addP P u (d.pcs shp) := by rw [addP_two, ← pcs_mid]
  have hmel : (d.midEv u).length ≤ 1 := by unfold Nd.midEv; split <;> simp
  have hal := asked_le (free := free) hok (by omega)
  have hmtl : d.midT.length ≤ 3 := by
    unfold Nd.midT; split
    · decide +kernel
    · rw [L_nil]; omega
  have hll := hok.2.2
  have hmkl := hok.2.1
  obtain ⟨uvs2, uk2, hun, hut2⟩ := n1.un
  rw [List.reverse_cons] at hut2
  obtain ⟨uws2, ut2, rfl, huw2⟩ := txts_unsnoc hut2
  obtain ⟨oP, hoP, hdP⟩ := n1.cP
  rw [hcP] at hoP
  obtain ⟨od, ks, a, vs, k, hod, hD, hval, ha, hvl, hadd⟩ := n1.pcAdd hk1 hpl1
  refine x_cons (wpAny_Expr_any ?_ (by with_unfolding_all rfl) (by with_unfolding_all rfl))
  walk_at "gs"
  rename_i b s2 hb _ I2
  refine r_append I2 (Led.put_of ha hb) ?_ (by show _ ≤ 16777216; omega)
  intro s3 k3 I3
  refine letG ?_
  intro GG
  obtain ⟨N3, n3, J3⟩ := In.forget I3 (fun N => LN w X (addP P u (d.pcs shp)) (due ++ d.midEv u) (u :: U) sh ((t ++ d.midT) :: T) N) (by
    rw [← eP]
    exact hadd _ (Led.le_put hb) _ _ _ ⟨b, _, rfl, Led.put_same, .cons hlv (.cons OptIs.s (.cons OptIs.s (.cons hmv .nil)))⟩)
  clear I1 I2 I3 hadd ha hb hod hval hD n1 hun hoP
  refine then_next ?_
  refine x_ifcut (h₀ := h₀) (L := L) (z := z) (fun m' N' => m' = m1 ∧ LN w X (newP (addP P u (d.pcs shp)) shp) (due ++ d.midEv u) (u :: U) sh ((t ++ d.midT) :: T) N') ?_ ?_
  · refine letQ ?_
    intro QJ
    walk_at "gs"
    refine if_bne (fun hne => ?_) (fun he => ?_)
    · have hs : shp = fmtT j := hsh.resolve_left hne
      refine letG ?_
      intro GG
      obtain ⟨oP, hoP, hdP⟩ := n3.cP
      rw [hcP] at hoP
      obtain ⟨od, ks, hod, _, hDO, hkl, hnew⟩ := n3.pcNew (u := shp) (by rw [addP_keys, hs]; exact hfresh)
      refine x_cons (wpAny_Assign_Subscript ?_ (by with_unfolding_all rfl))
      walk_at "gs"
      rename_i a5 s5 ha5 _ I5
      have hoP' : (N3.put a5 (listOf [].toArray 0)) (L + 1 + 1 + 1 + 1) = some oP := Led.put_of hoP ha5
      walk_at "gs"
      have hap : (addP P u (d.pcs shp)).length = P.length := by
        have := congrArg List.length (addP_keys P u (d.pcs shp))
        simpa using this
      refine r_setD I5 (Led.put_of hod ha5) (hDO _ _ (I5.get (Led.put_of hod ha5))) (by rw [List.length_map]; omega) ?_
      intro s7 od7 I7 hD7
      have hDO7 := dictO_of (I7.get Led.put_same) hD7
      refine letG ?_
      intro GG
      obtain ⟨es7, ep7, hd7⟩ := hDO7.data (I7.get Led.put_same)
      walk_at "gs"
      refine ⟨rfl, m1, _, ⟨rfl, ?_⟩, I7⟩
      unfold newP
      rw [if_neg hne]
      exact hnew _ _ _ _ ha5 hd7 hDO7
    · refine letQ ?_
      intro QJ
      walk_at "gs"
      refine ⟨rfl, m1, N3, ⟨rfl, ?_⟩, by assumption⟩
      unfold newP
      rw [if_pos he]
      exact n3
  rintro m4 N4 s4 ⟨em, n4⟩ I4
  subst em
  clear J3 n3
  refine letG ?_
  intro GG
  obtain ⟨tvs, tk, htx, htt⟩ := n4.tx
  rw [List.reverse_cons] at htt
  obtain ⟨tws, tt, rfl, htw⟩ := txts_unsnoc htt
  refine x_cons (wpAny_AugAssign_SubscriptAny ?_ (by intros; with_unfolding_all rfl))
  iterate 5 walk_at "g1"
  refine cutI (by assumption) (fun v => ∃ t, v = .str (litT d.lit) t) ?_ ?_
  · cases hlit : d.lit with
    | none =>
      rw [hlit] at hlv
      rw [hlv.of_none] at mlt
      walk_at "gs"
      exact ⟨⟨_, rfl⟩, by assumption⟩
    | some y =>
      rw [hlit] at hlv
      refine letG ?_
      intro GG
      obtain ⟨ty, ey⟩ := hlv.of_some
      rw [ey] at mlt
      walk_at "gs"
      exact ⟨⟨_, rfl⟩, by assumption⟩
  rintro _ s5 ⟨tl5, rfl⟩ I5
  clear I4
  walk_at "gs"
  refine r_setNeg (by assumption) htx ?_
  intro s6 k6 I6
  refine letG ?_
  intro GG
  obtain ⟨N6, n6, J6⟩ := In.forget I6 (fun N => LN w X (newP (addP P u (d.pcs shp)) shp) (due ++ d.midEv u) (u :: U) sh ((t ++ d.midT ++ litT d.lit) :: T) N) (n4.setTx htx (by
    rw [List.reverse_cons]
    exact txts_snoc htw))
  clear I5 I6 n4 htx
  refine then_next ?_
  refine letG ?_
  intro GG
  obtain ⟨uvs6, uk6, hun, hut6⟩ := n6.un
  rw [List.reverse_cons] at hut6
  obtain ⟨uws6, ut6, rfl, huw6⟩ := txts_unsnoc hut6
  obtain ⟨dvs, dk, hdu, hdr⟩ := n6.due
  have hdl : dvs.length ≤ 2000 := by rw [hdr.length, List.length_map, List.length_append]; omega
  refine x_aug ?_
  walk_at "gs"
  refine in4 n6 (e1 := .piece u) (e2 := .get (d.asked free)) (e3 := .convert (Str.ofString "v" ++ d.asked free) d.mark) (by assumption) (by assumption) (by assumption) (by assumption) (by assumption) (.cons OptIs.s (.cons OptIs.s .nil)) (.cons OptIs.s (.cons OptIs.s .nil)) (.cons OptIs.s (.cons OptIs.s (.cons hmv .nil))) (by rw [List.length_append]; omega) ?_
  intro s7 N7 n7 I7
  have epre : due ++ d.midEv u ++ [Ev.piece u, Ev.get (d.asked free), Ev.convert (Str.ofString "v" ++ d.asked free) d.mark] = due ++ d.pre u free := by rw [List.append_assoc]; rfl
  rw [epre] at n7
  clear J6 n6 hdu hdr hdl hun
  iterate 1 walk_at "g1"
  have hprl : (d.pre u free).length ≤ 4 := by unfold Nd.pre; rw [List.length_append]; simp only [List.length_cons, List.length_nil]; omega
  refine letG ?_
  intro GG
  obtain ⟨q11, q12, q13, q14, q15, q16, q17, q18, ⟨fv1, q19, q19'⟩, ⟨tf1, q20⟩⟩ := id M
  obtain ⟨lk, hlev⟩ := n7.lev
  obtain ⟨tlv, hlvl⟩ := ints_val rd.levs rd.lev
  have hlvs := rd.levs.length
  obtain ⟨dvs, dk, hdu, hdr⟩ := n7.due
  have hdl : dvs.length = (due ++ d.pre u free).length := by rw [hdr.length, List.length_map]
  have hdl2 : (due ++ d.pre u free).length ≤ 2000 := by rw [List.length_append]; omega
  refine x_ifcut (h₀ := h₀) (L := L) (z := z) (fun m' N' => N' = N7 ∧ LM X depth td en te (orCut fault (if (lv : Int) > depth then some (due ++ d.pre u free).length else none)) (d.next free) m' ∧ m' (Str.ofString "asked") = some (.str (d.asked free) ta) ∧ m' (Str.ofString "mark") = some mv ∧ m' (Str.ofString "shape") = some (.str shp tsh) ∧ m' (Str.ofString "below") = some (.int (bl : Int) tb) ∧ m' (Str.ofString "j") = some (.int (j : Int) tj)) ?_ ?_
  · walk_at "gs"
    refine r_itemL (by assumption) hlev (by omega) (by omega) (v := .int (lv : Int) tlv) (by simpa using hlvl) ?_ (by with_unfolding_all rfl)
    walk_at "gs"
    refine if_dec (fun hgt => ?_) (fun hle => ?_)
    · rw [if_pos hgt]
      cases hfault : fault with
      | none =>
        rw [hfault] at q19'
        rw [q19'.of_none] at q19
        refine letQ ?_
        intro QJ
        walk_at "gs"
        refine r_lenL (by assumption) hdu (by omega) ?_
        intro tl8 s8 I8 _
        rw [hdl]
        walk_at "gs"
        refine ⟨rfl, _, N7, ?_, by assumption⟩
        refine ⟨rfl, ⟨by walk_at "look", by walk_at "look", by walk_at "look", by walk_at "look", by walk_at "look", by walk_at "look", by walk_at "look", by walk_at "look", ⟨_, upd_same, rfl⟩, ⟨tf1, by walk_at "look"⟩⟩, by walk_at "look", by walk_at "look", by walk_at "look", by walk_at "look", by walk_at "look"⟩
      | some k =>
        rw [hfault] at q19'
        refine letG ?_
        intro GG
        obtain ⟨tk9, ek9⟩ := q19'.of_some
        rw [ek9] at q19 q19'
        refine letQ ?_
        intro QJ
        walk_at "gs"
        refine ⟨rfl, _, N7, ?_, by assumption⟩
        refine ⟨rfl, ⟨by walk_at "look", by walk_at "look", by walk_at "look", by walk_at "look", by walk_at "look", by walk_at "look", by walk_at "look", by walk_at "look", ⟨_, q19, q19'⟩, ⟨tf1, by walk_at "look"⟩⟩, by walk_at "look", by walk_at "look", by walk_at "look", by walk_at "look", by walk_at "look"⟩
    · rw [if_neg hle]
      have eo : orCut fault none = fault := by cases fault <;> rfl
      rw [eo]
      refine letQ ?_
      intro QJ
      walk_at "gs"
      refine ⟨rfl, _, N7, ?_, by assumption⟩
      refine ⟨rfl, ⟨by walk_at "look", by walk_at "look", by walk_at "look", by walk_at "look", by walk_at "look", by walk_at "look", by walk_at "look", by walk_at "look", ⟨fv1, by walk_at "look", q19'⟩, ⟨tf1, by walk_at "look"⟩⟩, by walk_at "look", by walk_at "look", by walk_at "look", by walk_at "look", by walk_at "look"⟩
  rintro m9 N9 s9 ⟨e9, M9, ma9, mmk9, msh9, mbl9, mj9⟩ I9
  subst e9
  clear I7 M ma mmk msh mbl mj q1 q2 q3 q4 q5 q6 q7 q8 q9 q9' q10 q11 q12 q13 q14 q15 q16 q17 q18 q19 q19' q20 mn ms mlt
  refine letG ?_
  intro GG
  obtain ⟨q1, q2, q3, q4, q5, q6, q7, q8, _, _⟩ := id M9
  refine x_cons (wpAny_Expr_any ?_ (by with_unfolding_all rfl) (by with_unfolding_all rfl))
  walk_at "gs"
  rename_i b s10 hb _ I10
  refine r_append I10 (Led.put_of hdu hb) ?_ (by show _ ≤ 16777216; omega)
  intro s11 k11 I11
  refine letG ?_
  intro GG
  obtain ⟨N11, n11, J11⟩ := In.forget I11 (fun N => LN w X (newP (addP P u (d.pcs shp)) shp) (due ++ d.pre u free ++ [.parse shp]) (u :: U) sh ((t ++ d.midT ++ litT d.lit) :: T) N) ((n7.le (Led.le_put hb)).setDue (Led.put_of hdu hb) (by
    rw [List.map_append]
    exact (RowsAre.mono (TupLe.of (Led.le_put hb)) hdr).append (.cons ⟨b, _, rfl, Led.put_same, .cons OptIs.s (.cons OptIs.s .nil)⟩ .nil)))
  clear I9 I10 I11 n7 hdu hdr hdl hb hlev
  refine then_next ?_
  refine x_cons (wpAny_Expr_any ?_ (by with_unfolding_all rfl) (by with_unfolding_all rfl))
  refine letG ?_
  intro GG
  obtain ⟨xvs, xk, hxu, hxr⟩ := n11.un
  have hxl : xvs.length ≤ 2000 := by rw [txts_len hxr, List.length_reverse, List.length_cons]; omega
  walk_at "gs"
  refine r_append (by assumption) hxu ?_ (by show _ ≤ 16777216; omega)
  intro s12 k12 I12
  refine letG ?_
  intro GG
  obtain ⟨N12, n12, J12⟩ := In.forget I12 (fun N => LN w X (newP (addP P u (d.pcs shp)) shp) (due ++ d.pre u free ++ [.parse shp]) (shp :: u :: U) sh ((t ++ d.midT ++ litT d.lit) :: T) N) (n11.setUn hxu (by
    rw [List.reverse_cons]; exact txts_snoc hxr))
  clear J11 I12 n11 hxu
  refine then_next ?_
  refine x_cons (wpAny_Expr_any ?_ (by with_unfolding_all rfl) (by with_unfolding_all rfl))
  refine letG ?_
  intro GG
  obtain ⟨yvs, yk, hyu, hyr⟩ := n12.sh
  have hyl : yvs.length ≤ 2000 := by rw [txts_len hyr, List.length_reverse]; omega
  walk_at "gs"
  refine r_append (by assumption) hyu ?_ (by show _ ≤ 16777216; omega)
  intro s13 k13 I13
  have eval_ : Str.ofString "v" ++ d.asked free ++ Str.ofString "!" ++ markT d.mark = d.value free := rfl
  refine letG ?_
  intro GG
  obtain ⟨N13, n13, J13⟩ := In.forget I13 (fun N => LN w X (newP (addP P u (d.pcs shp)) shp) (due ++ d.pre u free ++ [.parse shp]) (shp :: u :: U) (d.value free :: sh) ((t ++ d.midT ++ litT d.lit) :: T) N) (n12.setSh hyu (by
    rw [List.reverse_cons, ← eval_]; exact txts_snoc hyr))
  clear J12 I13 n12 hyu
  refine then_next ?_
  refine x_cons (wpAny_Expr_any ?_ (by with_unfolding_all rfl) (by with_unfolding_all rfl))
  refine letG ?_
  intro GG
  obtain ⟨zvs, zk, hzu, hzr⟩ := n13.tx
  have hzl : zvs.length ≤ 2000 := by rw [txts_len hzr, List.length_reverse, List.length_cons]; omega
  walk_at "gs"
  refine r_append (by assumption) hzu ?_ (by show _ ≤ 16777216; omega)
  intro s14 k14 I14
  refine letG ?_
  intro GG
  obtain ⟨N14, n14, J14⟩ := In.forget I14 (fun N => LN w X (newP (addP P u (d.pcs shp)) shp) (due ++ d.pre u free ++ [.parse shp]) (shp :: u :: U) (d.value free :: sh) (Str.ofString "" :: (t ++ d.midT ++ litT d.lit) :: T) N) (n13.setTx hzu (by
    rw [List.reverse_cons]; exact txts_snoc hzr))
  refine then_next ?_
  refine' seg_back (K := hd.heap_1 w.params) (fun b => (forBody b 12).drop 18) ?ho2 ?e2 ?_
  case ho2 => k_is
  case e2 => with_unfolding_all rfl
  subst epush
  exact law_turn3 G hh J14 n14 siP M9 mbl9 mj9 rd hen hcP
-- part C12
set_option maxRecDepth 100000 in
set_option maxHeartbeats 8000000 in
theorem law_turn {w : World} {A : Around} {mg mb : PySem.Str → Option Value} {h₀ : Heap} {m : PySem.Str → Option Value} {N : Led} {z : Zx} {s : Shared} {L : Addr} {X : LA} {S : Sl} {row lvs : List Int} {j lv bl : Nat} {x depth : Int} {en : PySem.Str} {td te tj : Tok} (G : Glo (hd.heap_1 w.params) mg mb h₀) (hh : A.handled = none)
    (I : In h₀ L m N z s) (n : LN w X S.P S.due S.under S.shown S.texts N) (si : SI S j lv) (M : LM X depth td en te S.fault S.free m) (mj : m (Str.ofString "j") = some (.int (j : Int) tj)) (rd : Rd X row lvs j lv bl x) (hen : en.length ≤ 1) (hcP : X.cP = L + 1 + 1 + 1 + 1) :
    wpAny (model PySem.Challenge.rw_kp0026_05.prog w) A (execs (forBody (lawB (hd.heap_1 w.params)) 12) (lawE (hd.heap_1 w.params) L))
      (fun f s' => f = .next ∧ ∃ m' N', LN w X (turnP en depth S (ndOf j x, lv) bl).P (turnP en depth S (ndOf j x, lv) bl).due (turnP en depth S (ndOf j x, lv) bl).under (turnP en depth S (ndOf j x, lv) bl).shown (turnP en depth S (ndOf j x, lv) bl).texts N' ∧
        LM X depth td en te (turnP en depth S (ndOf j x, lv) bl).fault (turnP en depth S (ndOf j x, lv) bl).free m' ∧ SI (turnP en depth S (ndOf j x, lv) bl) (j + 1) bl ∧ In h₀ L m' N' z s') (fun _ _ => False) s := by
  have hj : j < 65 := by have h1 := (List.getElem?_eq_some_iff.mp rd.x).1; have h2 := rd.small; omega
  have hjr : j < row.length := (List.getElem?_eq_some_iff.mp rd.x).1
  have hok : OkN (ndOf j x) := ⟨by show j < 100; omega, mark_len _, lit_len _⟩
  refine' seg_go (b := _ :: _) (fun b => forBody b 12) ?ho ?e ?_
  case ho => k_is
  case e => with_unfolding_all rfl
  intro ev QQ
  refine letG ?_
  intro GG
  obtain ⟨q1, q2, q3, q4, q5, q6, q7, q8, ⟨fv, q9, q9'⟩, ⟨tf, q10⟩⟩ := id M
  obtain ⟨rk, hrow⟩ := n.row
  obtain ⟨lk, hlev⟩ := n.lev
  obtain ⟨tx, hx⟩ := ints_val rd.rows rd.x
  obtain ⟨tl, hl⟩ := ints_val rd.levs rd.lev
  have hrl := rd.rows.length
  have hll := rd.levs.length
  have hrs := rd.small
  have hnl := numT_le j
  have hfr := si.free
  have hnf := numT_le S.free
  walk_at "gs"
  refine r_itemL (by assumption) hrow (by omega) (by omega) (by simpa using hx) ?_ (by with_unfolding_all rfl)
  iterate 3 walk_at "g1"
  refine x_assign ?_
  rename_i _ _ _ _ _ _ s1 I1 _
  clear I
  refine cutI I1 (fun v => ∃ t, v = .int (bl : Int) t) ?_ ?_
  · refine letQ ?_
    intro QJ
    walk_at "gs"
    refine r_lenL (by assumption) hrow (by omega) ?_
    intro _ _ _ _
    walk_at "gs"
    have hb := rd.below
    refine if_dec (fun hlt => ?_) (fun hge => ?_)
    · rw [if_pos (by omega)] at hb
      refine letG ?_
      intro GG
      obtain ⟨tb, hb⟩ := ints_val rd.levs hb
      walk_at "gs"
      refine r_itemL (by assumption) hlev (by omega) (by omega) (v := .int (bl : Int) tb) ?_ ?_ (by with_unfolding_all rfl)
      · have e : ((j : Int) + 1).toNat = j + 1 := by omega
        rw [e]; exact hb
      · exact ⟨⟨_, rfl⟩, by assumption⟩
    · rw [if_neg (by omega)] at hb
      subst hb
      walk_at "gs"
      exact ⟨⟨_, rfl⟩, by assumption⟩
  rintro _ s2 ⟨tb, rfl⟩ I2
  clear I1
  walk_at "gn"
  refine x_ifcut (h₀ := h₀) (L := L) (z := z) (fun m' N' => N' = N ∧ LM X depth td en te S.fault ((ndOf j x).next S.free) m' ∧ (∃ t, m' (Str.ofString "asked") = some (.str ((ndOf j x).asked S.free) t)) ∧ (∃ t, m' (Str.ofString "name") = some (.str (ndOf j x).name t)) ∧
    (∃ t, m' (Str.ofString "size") = some (.int (x.fdiv 3) t)) ∧ (∃ t, m' (Str.ofString "below") = some (.int (bl : Int) t)) ∧ m' (Str.ofString "j") = some (.int (j : Int) tj)) ?_ ?_
  · refine letQ ?_
    intro QJ
    walk_at "gs"
    refine if_beq (fun hev => ?_) (fun hod => ?_)
    · refine letQ ?_
      intro QJ
      walk_at "gs"
      have ha : (ndOf j x).auto = true := decide_eq_true hev
      refine ⟨rfl, _, N, ?_, by assumption⟩
      refine ⟨rfl, ⟨by walk_at "look", by walk_at "look", by walk_at "look", by walk_at "look", by walk_at "look", by walk_at "look", by walk_at "look", by walk_at "look", ⟨fv, by walk_at "look", q9'⟩, ?_⟩, ?_, ?_, ?_, ?_, ?_⟩
      · unfold Nd.next
        rw [ha, if_pos rfl]
        apply Exists.intro
        walk_at "look"
      · unfold Nd.asked
        rw [ha, if_pos rfl]
        apply Exists.intro
        walk_at "look"
      · unfold Nd.name
        rw [ha, if_pos rfl]
        apply Exists.intro
        walk_at "look"
      · apply Exists.intro
        walk_at "look"
      · apply Exists.intro
        walk_at "look"
      · walk_at "look"
    · refine letQ ?_
      intro QJ
      walk_at "gs"
      have ha : (ndOf j x).auto = false := decide_eq_false hod
      refine ⟨rfl, _, N, ?_, by assumption⟩
      refine ⟨rfl, ⟨by walk_at "look", by walk_at "look", by walk_at "look", by walk_at "look", by walk_at "look", by walk_at "look", by walk_at "look", by walk_at "look", ⟨fv, by walk_at "look", q9'⟩, ?_⟩, ?_, ?_, ?_, ?_, ?_⟩
      · unfold Nd.next
        rw [ha, if_neg Bool.false_ne_true]
        apply Exists.intro
        walk_at "look"
      · unfold Nd.asked
        rw [ha, if_neg Bool.false_ne_true]
        apply Exists.intro
        walk_at "look"
      · unfold Nd.name
        rw [ha, if_neg Bool.false_ne_true]
        apply Exists.intro
        walk_at "look"
      · apply Exists.intro
        walk_at "look"
      · apply Exists.intro
        walk_at "look"
      · walk_at "look"
  rintro m3 N3 s3 ⟨e3, M3, ⟨ta, ma⟩, ⟨tn, mn⟩, ⟨ts, ms⟩, ⟨tb', mb'⟩, mj3⟩ I3
  subst e3
  clear I2 M q1 q2 q3 q4 q5 q6 q7 q8 q9 q9' q10 mj
  refine letG ?_
  intro GG
  obtain ⟨q1, q2, q3, q4, q5, q6, q7, q8, ⟨fv, q9, q9'⟩, ⟨tf, q10⟩⟩ := id M3
  walk_at "gs"
  refine r_pick4 (by assumption) Led.put_same (fmod4 _).1 (fmod4 _).2 _ (markAt (fmod4 _).1 (fmod4 _).2 OptIs.n OptIs.s OptIs.s OptIs.s) ?_ (by with_unfolding_all rfl)
  intro mv hmv
  have I4 := In.weaken (N := N3) (by assumption) (Led.le_put (by assumption))
  walk_at "gs"
  refine r_pick4 (by assumption) Led.put_same (fmod4 _).1 (fmod4 _).2 _ (litAt (fmod4 _).1 (fmod4 _).2 OptIs.s OptIs.s OptIs.n OptIs.s) ?_ (by with_unfolding_all rfl)
  intro lv' hlv
  have I5 := In.weaken (N := N3) (by assumption) (Led.le_put (by assumption))
  iterate 1 walk_at "g1"
  refine x_assign ?_
  refine cutI (by assumption) (fun v => ∃ t, v = .str ((ndOf j x).shape (decide (bl ≤ lv))) t) ?_ ?_
  · walk_at "gs"
    refine r_itemL (by assumption) hlev (by omega) (by omega) (v := .int (lv : Int) tl) (by simpa using hl) ?_ (by with_unfolding_all rfl)
    walk_at "gs"
    have hw : (ndOf j x).wish = decide (((x.fdiv 3).fdiv 32).fmod 2 = 1) := rfl
    have ej : (ndOf j x).j = j := rfl
    unfold Nd.shape
    rw [hw, ej]
    refine if_dec (fun hle => ?_) (fun hgt => ?_)
    · rw [decide_eq_true (by omega : bl ≤ lv)]
      walk_at "gs"
      refine if_beq (fun hw1 => ?_) (fun hw0 => ?_)
      · rw [decide_eq_true hw1]
        walk_at "gs"
        exact ⟨⟨_, rfl⟩, by assumption⟩
      · rw [decide_eq_false hw0]
        walk_at "gs"
        exact ⟨⟨_, rfl⟩, by assumption⟩
    · rw [decide_eq_false (by omega : ¬ bl ≤ lv)]
      walk_at "gs"
      exact ⟨⟨_, rfl⟩, by assumption⟩
  rintro _ s6 ⟨tsh, rfl⟩ I6
  iterate 1 walk_at "g1"
  refine' seg_back (K := hd.heap_1 w.params) (fun b => (forBody b 12).drop 8) ?ho2 ?e2 ?_
  case ho2 => k_is
  case e2 => with_unfolding_all rfl
  refine law_turn2 G hh (by assumption) n si ?_ (ta := ta) (by walk_at "look") (tn := tn) (by walk_at "look") (ts := ts) (by walk_at "look") (tb := tb') (by walk_at "look") (mv := mv) (by walk_at "look") hmv (litv := lv') (by walk_at "look") hlv (tsh := tsh) (by walk_at "look") (by walk_at "look") rd hen hcP
  exact ⟨by walk_at "look", by walk_at "look", by walk_at "look", by walk_at "look", by walk_at "look", by walk_at "look", by walk_at "look", by walk_at "look", ⟨fv, by walk_at "look", q9'⟩, ⟨tf, by walk_at "look"⟩⟩
-- part C13
theorem Lvs.ge {ls : List Int} (h : Lvs ls) : ∀ {i : Nat} {l : Int}, ls[i]? = some l → 1 ≤ l := by
  induction h with
  | nil => intro i l e; simp at e
  | one a ha => intro i l e; cases i with
    | zero => simp at e; omega
    | succ i => simp at e
  | cons a b r ha hb _ ih => intro i l e; cases i with
    | zero => simp at e; omega
    | succ i => exact ih (by simpa using e)
theorem Lvs.step {ls : List Int} (h : Lvs ls) : ∀ {i : Nat} {l l' : Int}, ls[i]? = some l → ls[i + 1]? = some l' → l' ≤ l + 1 := by
  induction h with
  | nil => intro i l l' e; simp at e
  | one a ha => intro i l l' e e'; simp at e'
  | cons a b r ha hb _ ih => intro i l l' e e'; cases i with
    | zero => simp at e e'; omega
    | succ i => exact ih (by simpa using e) (by simpa using e')
theorem SI.zero (en : PySem.Str) (depth : Int) : SI (S0 en depth) 0 1 := by
  refine { keys := ?_, kin := ?_, und := ?_, lu := rfl, ls := rfl, lt := rfl, free := Nat.le_refl _, phi := ?_, due := ?_, psi := ?_, pl := Nat.le_refl _, emp := ?_ }
  · show ([topT, Str.ofString ""] : List PySem.Str).Nodup
    simp [top_ne]
  · intro u hu
    have hu : u ∈ ([topT, Str.ofString ""] : List PySem.Str) := hu
    simp only [List.mem_cons, List.not_mem_nil, or_false] at hu
    rcases hu with h | h
    · exact .inl h
    · exact .inr (.inl h)
  · intro u hu
    have hu : u ∈ ([topT] : List PySem.Str) := hu
    rw [List.mem_singleton.mp hu]
    exact ⟨[], by show List.lookup topT [(topT, []), _] = _; simp⟩
  · show (([Str.ofString ""] : List PySem.Str).map (·.length)).sum + _ ≤ _
    simp only [List.map_cons, List.map_nil, List.sum_cons, List.sum_nil, L_nil]
    show 0 + 0 + (([] : List PySem.Str).map _).sum ≤ _
    simp
  · show ([Ev.parse topT]).length + 2 * ([] : List PySem.Str).length ≤ _
    simp
  · show (([(topT, []), (Str.ofString "", [endPc en])] : List (PySem.Str × List Pc)).map (·.2.length)).sum + ([] : List PySem.Str).length ≤ _
    simp
  · refine ⟨[endPc en], ?_⟩
    show List.lookup (Str.ofString "") [(topT, []), (Str.ofString "", [endPc en])] = _
    have h : (Str.ofString "" == topT) = false := by simpa using Ne.symm top_ne
    rw [List.lookup_cons, h]
    simp
set_option maxRecDepth 100000 in
set_option maxHeartbeats 8000000 in
/-- the law's loop -/
theorem law_build {w : World} {A : Around} {E : Value → Shared → Prop} {Q : Flow → Shared → Prop} {mg mb : PySem.Str → Option Value} {h₀ : Heap} {m : PySem.Str → Option Value} {N : Led} {z : Zx} {s : Shared} {L : Addr} {X : LA} {row lvs : List Int} {depth : Int} {en : PySem.Str} {td te : Tok} (G : Glo (hd.heap_1 w.params) mg mb h₀) (hh : A.handled = none)
    (I : In h₀ L m N z s) (n : LN w X (S0 en depth).P (S0 en depth).due (S0 en depth).under (S0 en depth).shown (S0 en depth).texts N) (M : LM X depth td en te (S0 en depth).fault (S0 en depth).free m) (hr : IntsAre X.rvs row) (hl : IntsAre X.lvs lvs) (hlen : lvs.length = row.length) (hsm : row.length ≤ 65) (hL : Lvs lvs) (hL1 : lvs.head? = some 1) (hen : en.length ≤ 1) (hcP : X.cP = L + 1 + 1 + 1 + 1)
    (k : ∀ m' N' s', LN w X (turns en depth 1 (ndsFrom 0 row lvs) (S0 en depth)).P (turns en depth 1 (ndsFrom 0 row lvs) (S0 en depth)).due (turns en depth 1 (ndsFrom 0 row lvs) (S0 en depth)).under (turns en depth 1 (ndsFrom 0 row lvs) (S0 en depth)).shown (turns en depth 1 (ndsFrom 0 row lvs) (S0 en depth)).texts N' →
      LM X depth td en te (turns en depth 1 (ndsFrom 0 row lvs) (S0 en depth)).fault (turns en depth 1 (ndsFrom 0 row lvs) (S0 en depth)).free m' → SI (turns en depth 1 (ndsFrom 0 row lvs) (S0 en depth)) row.length 1 → In h₀ L m' N' z s' →
      wpAny (model PySem.Challenge.rw_kp0026_05.prog w) A (execs ((lawB (hd.heap_1 w.params)).drop 13) (lawE (hd.heap_1 w.params) L)) Q E s') :
    wpAny (model PySem.Challenge.rw_kp0026_05.prog w) A (execs ((lawB (hd.heap_1 w.params)).drop 12) (lawE (hd.heap_1 w.params) L)) Q E s := by
  have hrl := hr.length
  have hll := hl.length
  have hnl : (ndsFrom 0 row lvs).length = row.length := nds_len 0 row lvs hlen.symm
  obtain ⟨rk, hrow⟩ := n.row
  obtain ⟨q1, _⟩ := id M
  have hpos : 0 < row.length := by
    cases lvs with
    | nil => cases hL1
    | cons a r => rw [← hlen]; simp
  have lv0 : lvs[0]? = some 1 := by rw [← hL1]; cases lvs <;> rfl
  refine' seg_go (b := _ :: _) (fun b => b.drop 12) ?ho ?e ?_
  case ho => k_is
  case e => with_unfolding_all rfl
  intro ev QQ
  refine x_for (wpAny_For ?_ (by intro _; with_unfolding_all rfl))
  walk_at "gs"
  refine r_builtin G (by assumption) (by k_is) PyProof.Rows.Boot.«range» ?_
  walk_at "gs"
  refine r_lenL (by assumption) hrow (by omega) ?_
  intro tl1 s1 I1 _
  walk_at "gs"
  refine r_range (by assumption) ?_
  intro r u v s2 I2 hrg
  refine r_iterRN (fun i m' N' => ∃ S, turns en depth 1 ((ndsFrom 0 row lvs).drop i) S = turns en depth 1 (ndsFrom 0 row lvs) (S0 en depth) ∧ LN w X S.P S.due S.under S.shown S.texts N' ∧ LM X depth td en te S.fault S.free m' ∧ SI S i (if i < row.length then (lvs.getD i 1).toNat else 1)) hh I2 hrg (by omega)
    ⟨_, rfl, n, M, ?zero⟩ ?turn ?done
  case zero =>
    rw [if_pos hpos]
    have e : (lvs.getD 0 1).toNat = 1 := by rw [List.getD_eq_getElem?_getD, lv0]; rfl
    rw [e]
    exact SI.zero en depth
  case done =>
    rintro m3 N3 s3 ⟨S, h1, h2, h3, h4⟩ I3
    rw [hrl] at h1 h4
    rw [List.drop_of_length_le (by omega), turns] at h1
    rw [if_neg (by omega)] at h4
    subst h1
    refine then_next ?_
    refine' seg_back (K := hd.heap_1 w.params) (fun b => b.drop 13) ?ho2 ?e2 ?_
    case ho2 => k_is
    case e2 => with_unfolding_all rfl
    exact k _ _ _ h2 h3 h4 I3
  rintro i ti m3 N3 z3 s3 hi ⟨S, h1, h2, h3, h4⟩ hz I3
  rw [hrl] at hi
  rw [if_pos hi] at h4
  obtain ⟨x, hx⟩ : ∃ x, row[i]? = some x := ⟨_, List.getElem?_eq_getElem hi⟩
  obtain ⟨l, hli⟩ : ∃ l, lvs[i]? = some l := ⟨_, List.getElem?_eq_getElem (by omega)⟩
  have hl1 := hL.ge hli
  have el : lvs.getD i 1 = l := by rw [List.getD_eq_getElem?_getD, hli]; rfl
  rw [el] at h4
  have hnd : (ndsFrom 0 row lvs)[i]? = some (ndOf i x, l.toNat) := by
    have := nds_get 0 row lvs i x l hx hli
    rwa [Nat.zero_add] at this
  have hdr : (ndsFrom 0 row lvs).drop i = (ndOf i x, l.toNat) :: (ndsFrom 0 row lvs).drop (i + 1) := by
    obtain ⟨hlt, he⟩ := List.getElem?_eq_some_iff.mp hnd
    rw [List.drop_eq_getElem_cons hlt, he]
  have hbl : belowOf 1 ((ndsFrom 0 row lvs).drop (i + 1)) = if i + 1 < row.length then (lvs.getD (i + 1) 1).toNat else 1 := by
    by_cases c : i + 1 < row.length
    · rw [if_pos c]
      obtain ⟨x', hx'⟩ : ∃ x, row[i + 1]? = some x := ⟨_, List.getElem?_eq_getElem c⟩
      obtain ⟨l', hl'⟩ : ∃ l, lvs[i + 1]? = some l := ⟨_, List.getElem?_eq_getElem (by omega)⟩
      have hn' := nds_get 0 row lvs (i + 1) x' l' hx' hl'
      obtain ⟨hlt, he⟩ := List.getElem?_eq_some_iff.mp hn'
      rw [List.drop_eq_getElem_cons hlt, he, List.getD_eq_getElem?_getD, hl']
      rfl
    · rw [if_neg c, List.drop_of_length_le (by omega)]
      rfl
  rw [hdr, turns, hbl] at h1
  have rd : Rd X row lvs i l.toNat (if i + 1 < row.length then (lvs.getD (i + 1) 1).toNat else 1) x := by
    refine ⟨hr, hl, hlen, hsm, hx, by rw [hli]; congr 1; omega, ?_, by omega, ?_, ?_⟩
    · by_cases c : i + 1 < row.length
      · obtain ⟨l', hl'⟩ : ∃ l, lvs[i + 1]? = some l := ⟨_, List.getElem?_eq_getElem (by omega)⟩
        have h5 := hL.ge hl'
        rw [if_pos c, if_pos c, hl', List.getD_eq_getElem?_getD, hl']
        congr 1
        show l' = ((l'.toNat : Nat) : Int)
        omega
      · rw [if_neg c, if_neg c]
    · by_cases c : i + 1 < row.length
      · obtain ⟨l', hl'⟩ : ∃ l, lvs[i + 1]? = some l := ⟨_, List.getElem?_eq_getElem (by omega)⟩
        have h5 := hL.ge hl'
        rw [if_pos c, List.getD_eq_getElem?_getD, hl']
        show 1 ≤ l'.toNat
        omega
      · rw [if_neg c]; exact Nat.le_refl _
    · by_cases c : i + 1 < row.length
      · obtain ⟨l', hl'⟩ : ∃ l, lvs[i + 1]? = some l := ⟨_, List.getElem?_eq_getElem (by omega)⟩
        have h5 := hL.step hli hl'
        rw [if_pos c, List.getD_eq_getElem?_getD, hl']
        show l'.toNat ≤ _
        omega
      · rw [if_neg c]; omega
  refine r_store I3 (fun s4 I4 => ?_)
  refine' seg_back (K := hd.heap_1 w.params) (fun b => forBody b 12) ?ho2 ?e2 ?_
  case ho2 => k_is
  case e2 => with_unfolding_all rfl
  refine wpAny_mono (law_turn G hh I4 h2 h4 (h3.other (y := Str.ofString "j") (.int (i : Int) ti) (by decide +kernel)) upd_same rd hen hcP) (fun f s5 y => ?_) (fun _ _ y => y)
  obtain ⟨rfl, m5, N5, n5, M5, si5, I5⟩ := y
  exact ⟨m5, N5, ⟨_, h1, n5, M5, si5⟩, I5⟩
-- part C14
/-- lists and tuples stay -/
noncomputable def LT (N N' : Led) : Prop := ∀ a o, N a = some o → ((∃ vs n, o = listOf vs n) ∨ ∃ vs, o = tupleOf vs) → N' a = some o
theorem LT.of {N N' : Led} (l : Led.Le N N') : LT N N' := fun a o e _ => l a o e
theorem LT.trans {N N' N'' : Led} (h : LT N N') (h' : LT N' N'') : LT N N'' := fun a o e q => h' a o (h a o e q) q
noncomputable def NotLT (o : Obj) : Prop := (∀ vs n, o ≠ listOf vs n) ∧ ∀ vs, o ≠ tupleOf vs
theorem LT.put {N : Led} {a : Addr} {o o' : Obj} (h : N a = some o) (hn : NotLT o) : LT N (N.put a o') := fun b x e q => by
  have hb : b ≠ a := fun y => by
    subst y; rw [h] at e; cases e
    rcases q with ⟨vs, n, q⟩ | ⟨vs, q⟩
    · exact hn.1 _ _ q
    · exact hn.2 _ q
  rw [Led.put_ne hb]; exact e
theorem LT.tup {N N' : Led} (h : LT N N') : TupLe N N' := fun a vs e => h a _ e (.inr ⟨vs, rfl⟩)
theorem not_cell {o : Obj} {v : Option Value} (h : o.data = .cell v) : NotLT o := ⟨(fun vs n q => by subst q; cases h), fun vs q => by subst q; cases h⟩
theorem not_dict {o : Obj} {es : Array DictEntry} {n : Nat} (h : o.data = .dict es n) : NotLT o := ⟨(fun vs n q => by subst q; cases h), fun vs q => by subst q; cases h⟩
noncomputable def Led.del (N : Led) (a : Addr) : Led := fun b => if b = a then none else N b
theorem Led.del_of {N : Led} {a b : Addr} {o : Obj} (h : (N.del a) b = some o) : N b = some o ∧ b ≠ a := by
  unfold Led.del at h; split at h
  · cases h
  · rename_i q; exact ⟨h, q⟩
theorem Led.del_ne {N : Led} {a b : Addr} {o : Obj} (h : N b = some o) (hb : b ≠ a) : (N.del a) b = some o := by unfold Led.del; rw [if_neg hb]; exact h
theorem LT.del {N N' : Led} (h : LT N N') (a : Addr) : LT (N.del a) (N'.del a) := fun b o e q => Led.del_ne (h b o (Led.del_of e).1 q) (Led.del_of e).2
theorem LT.toDel {N N' : Led} {a : Addr} (h : LT N N') (ha : N a = none) : LT N (N'.del a) := fun b o e q => Led.del_ne (h b o e q) fun y => by rw [y, ha] at e; cases e
/-- what the law built, as far as it is asked for again -/
structure G1 (w : World) (P : List (PySem.Str × List Pc)) (dueF : List Ev) (tx0 : PySem.Str) (aDue aTx : Addr) (od : Obj) (N : Led) : Prop where
  pcs : ∃ ks, DictO w od (ks.map toV) ∧ All2 (PcRel N) ks P
  due : ∃ vs k, N aDue = some (listOf vs.toArray k) ∧ RowsAre N vs (dueF.map evR)
  tx : ∃ t k, N aTx = some (listOf [Value.str tx0 t].toArray k)
theorem G1.lt {w : World} {P : List (PySem.Str × List Pc)} {dueF : List Ev} {tx0 : PySem.Str} {aDue aTx : Addr} {od : Obj} {N N' : Led} (g : G1 w P dueF tx0 aDue aTx od N) (h : LT N N') : G1 w P dueF tx0 aDue aTx od N' := by
  obtain ⟨⟨ks, h1, h2⟩, ⟨vs, k, h3, h4⟩, ⟨t, k', h5⟩⟩ := g
  refine ⟨⟨ks, h1, All2.mono (fun x pl r => ?_) h2⟩, ⟨vs, k, h _ _ h3 (.inl ⟨_, _, rfl⟩), h4.mono h.tup⟩, ⟨t, k', h _ _ h5 (.inl ⟨_, _, rfl⟩)⟩⟩
  obtain ⟨e, us, n, q1, q2⟩ := r
  exact ⟨e, us, n, h _ _ q1 (.inl ⟨_, _, rfl⟩), q2.mono h.tup⟩
structure Hs (N : Led) (l : List (Addr × Obj)) : Prop where
  at_ : ∀ p ∈ l, N p.1 = some p.2
  apart : l.Pairwise fun p q => p.1 ≠ q.1
theorem Hs.new {N : Led} {l : List (Addr × Obj)} {a : Addr} {o : Obj} (h : Hs N l) (ha : N a = none) : Hs (N.put a o) ((a, o) :: l) := by
  have ne : ∀ p ∈ l, a ≠ p.1 := fun p hp q => by rw [q, h.at_ p hp] at ha; cases ha
  refine ⟨fun p hp => ?_, .cons ne h.apart⟩
  rcases List.mem_cons.mp hp with rfl | hp
  · exact Led.put_same
  · exact (Led.put_ne (ne p hp).symm).trans (h.at_ p hp)
inductive Up (a : Addr) (o o' : Obj) : List (Addr × Obj) → List (Addr × Obj) → Prop
  | here {r} : Up a o o' ((a, o) :: r) ((a, o') :: r)
  | there {p r r'} : Up a o o' r r' → Up a o o' (p :: r) (p :: r')
theorem Up.mem2 {a : Addr} {o o' : Obj} {l l' : List (Addr × Obj)} (u : Up a o o' l l') : (a, o') ∈ l' := by
  induction u with
  | here => exact .head _
  | there _ ih => exact .tail _ ih
theorem Up.keys {a : Addr} {o o' : Obj} {l l' : List (Addr × Obj)} (u : Up a o o' l l') : l'.map (·.1) = l.map (·.1) := by
  induction u with
  | here => rfl
  | there _ ih => rw [List.map_cons, List.map_cons, ih]
theorem Up.cases {a : Addr} {o o' : Obj} {l l' : List (Addr × Obj)} (u : Up a o o' l l') : ∀ p ∈ l', p = (a, o') ∨ p ∈ l := by
  induction u with
  | here => intro p hp; exact (List.mem_cons.mp hp).imp id fun h => .tail _ h
  | there _ ih => intro p hp; rcases List.mem_cons.mp hp with h | h
                  · exact .inr (h ▸ .head _)
                  · exact (ih p h).imp id fun h => .tail _ h
theorem apart_keys {l l' : List (Addr × Obj)} (e : l'.map (·.1) = l.map (·.1)) (h : l.Pairwise fun p q => p.1 ≠ q.1) : l'.Pairwise fun p q => p.1 ≠ q.1 := by
  have h1 : (l.map (·.1)).Pairwise (· ≠ ·) := List.pairwise_map.mpr h
  rw [← e] at h1
  exact List.pairwise_map.mp h1
theorem apart_at {l : List (Addr × Obj)} (h : l.Pairwise fun p q => p.1 ≠ q.1) {a : Addr} {o o' : Obj} (h1 : (a, o) ∈ l) (h2 : (a, o') ∈ l) : o = o' := by
  induction l with
  | nil => cases h1
  | cons p r ih =>
    rw [List.pairwise_cons] at h
    rcases List.mem_cons.mp h1 with q1 | q1 <;> rcases List.mem_cons.mp h2 with q2 | q2
    · rw [← q1] at q2; cases q2; rfl
    · exact absurd (by rw [← q1]) (h.1 _ q2)
    · exact absurd (by rw [← q2]) (h.1 _ q1)
    · exact ih h.2 q1 q2
theorem Hs.upd {N : Led} {l l' : List (Addr × Obj)} {a : Addr} {o o' : Obj} (h : Hs N l) (u : Up a o o' l l') : Hs (N.put a o') l' := by
  have ap := apart_keys u.keys h.apart
  have hm : (a, o') ∈ l' := u.mem2
  refine ⟨fun p hp => ?_, ap⟩
  by_cases e : p.1 = a
  · have : p.2 = o' := apart_at ap (a := a) (by rw [← e]; exact hp) hm
    rw [e, this]; exact Led.put_same
  · rw [Led.put_ne e]
    rcases u.cases p hp with q | q
    · rw [q] at e; exact absurd rfl e
    · exact h.at_ p q
theorem Hs.get {N : Led} {l : List (Addr × Obj)} {a : Addr} {o : Obj} (h : Hs N l) (hm : (a, o) ∈ l) : N a = some o := h.at_ _ hm
/-- a lambda is made: three new objects, the table grows -/
theorem Hs.lam {N N' : Led} {l l' : List (Addr × Obj)} {c' P' f : Addr} {ps : Array Value} {pos : Pos} {qual : PySem.Str} {fo : Obj} (h : Hs N l) (M : LamMade N N' 115 c' P' f ps pos qual fo)
    (u : Up 115 (tabObj ps) (tabObj (ps ++ #[rawInt pos.line, rawInt pos.col, .ref c'])) l l') : ∃ oc, HdO oc c' P' ∧ RecO oc c' qual ∧ Hs N' ((f, fo) :: (c', oc) :: (P', tabObj #[]) :: l') := by
  obtain ⟨oc, h1, h2, h3⟩ := M.cd
  have ap := apart_keys u.keys h.apart
  have ne : ∀ {b : Addr}, N b = none → ∀ p ∈ l', b ≠ p.1 := fun hb p hp q => by
    have : p.1 ∈ l.map (·.1) := by rw [← u.keys]; exact List.mem_map_of_mem hp
    obtain ⟨r, hr, er⟩ := List.mem_map.mp this
    rw [q, ← er, h.at_ r hr] at hb; cases hb
  refine ⟨oc, h2, h3, ⟨fun p hp => ?_, ?_⟩⟩
  · rcases List.mem_cons.mp hp with rfl | hp
    · exact M.fn
    rcases List.mem_cons.mp hp with rfl | hp
    · exact h1
    rcases List.mem_cons.mp hp with rfl | hp
    · exact M.own
    by_cases e : p.1 = 115
    · have hm : (115, tabObj (ps ++ #[rawInt pos.line, rawInt pos.col, .ref c'])) ∈ l' := u.mem2
      have : p.2 = _ := apart_at ap (a := 115) (by rw [← e]; exact hp) hm
      rw [e, this]; exact M.tab
    · rcases u.cases p hp with q | q
      · rw [q] at e; exact absurd rfl e
      · exact M.keep _ _ e (h.at_ p q)
  · refine .cons (fun p hp => ?_) (.cons (fun p hp => ?_) (.cons (ne M.nP) ap))
    · rcases List.mem_cons.mp hp with rfl | hp
      · exact M.apart.1
      rcases List.mem_cons.mp hp with rfl | hp
      · exact M.apart.2.1
      · exact ne M.nf p hp
    · rcases List.mem_cons.mp hp with rfl | hp
      · exact M.apart.2.2
      · exact ne M.nc p hp
theorem LamMade.lt {N N' : Led} {c' P' f : Addr} {ps : Array Value} {pos : Pos} {qual : PySem.Str} {fo : Obj} (M : LamMade N N' 115 c' P' f ps pos qual fo) (h : N 115 = some (tabObj ps)) : LT N N' := fun a o e q => by
  refine M.keep a o (fun y => ?_) e
  subst y; rw [h] at e; cases e
  rcases q with ⟨vs, n, q⟩ | ⟨vs, q⟩
  · cases congrArg Obj.data q
  · cases congrArg Obj.data q
theorem lam_is {K : Frag} {oc : Value} {od : Option Addr} {osl : Array (Option Value)} {name qual : PySem.Str} {params : Arguments} {body : List Stmt} {scope : Scope} {cl : List (PySem.Str × Addr)} {dV kV doc pm cdv ct : Value} {an : Option Addr} {i : Nat} {l : Lam}
    (ho : K.lookup 118 = some ⟨oc, od, .func (fnX name qual params body scope cl dV kV doc pm an cdv ct), osl⟩) (e : lamIn body i = some l) : lamAt K i = some l := by rw [lamAt, lawB_of ho, e]
/-- of the ledger alone: a lambda of the law -/
noncomputable def FnN (N : Led) (f c P : Addr) (clos : List (PySem.Str × Addr)) (l : Option Lam) : Prop :=
  ∃ params body scope pos pm ctv oc, l = some (params, body, scope, pos) ∧ N f = some (kla_obj "<lambda>" qP params body scope clos pm c ctv) ∧ N c = some oc ∧ HdO oc c P ∧ RecO oc c qP
-- MACROS
local macro_rules | `(tactic| walk_at "up") => `(tactic| repeat (first | exact Up.here | refine Up.there ?_))
local macro_rules | `(tactic| walk_at "mem") => `(tactic| repeat (first | exact List.Mem.head _ | refine List.Mem.tail _ ?_))
-- END MACROS
-- part C15
theorem Hs.add {N : Led} {l : List (Addr × Obj)} {a : Addr} {o : Obj} (h : Hs N l) (ha : N a = some o) (ne : ∀ p ∈ l, a ≠ p.1) : Hs N ((a, o) :: l) :=
  ⟨(fun p hp => (List.mem_cons.mp hp).elim (fun e => e ▸ ha) fun hp => h.at_ p hp), .cons ne h.apart⟩
theorem ne_obj {N : Led} {a b : Addr} {o o' : Obj} (h : N a = some o) (h' : N b = some o') (hd : o.data ≠ o'.data) : a ≠ b := fun e => by
  rw [e, h'] at h; cases h; exact hd rfl
theorem ne1 (a : Nat) : a ≠ a + 1 := by omega
theorem ne2 (a : Nat) : a ≠ a + 1 + 1 := by omega
theorem ne3 (a : Nat) : a ≠ a + 1 + 1 + 1 := by omega
theorem LN.base {w : World} {X : LA} {P : List (PySem.Str × List Pc)} {due : List Ev} {un sh : List PySem.Str} {tx0 : PySem.Str} {N : Led} {L : Addr} (n : LN w X P due un sh [tx0] N) (hA : X.cA = L + 1) (hL : X.cL = L + 1 + 1) (hN : X.cN = L + 1 + 1 + 1) (hP : X.cP = L + 1 + 1 + 1 + 1) :
    ∃ oA oL oN oP od, oA.data = .cell none ∧ oL.data = .cell none ∧ oN.data = .cell none ∧ oP.data = .cell (some (.ref X.P)) ∧ (∃ es ep, od.data = .dict es ep) ∧
      Hs N [(115, tabObj #[]), (L + 1, oA), (L + 1 + 1, oL), (L + 1 + 1 + 1, oN), (L + 1 + 1 + 1 + 1, oP), (X.P, od)] ∧ G1 w P due tx0 X.due X.tx od N := by
  obtain ⟨_, _, hdue, _, _, ⟨v6, k6, h6, r6⟩, h7, ⟨o8, h8, r8⟩, ⟨o9, h9, r9⟩, ⟨o10, h10, r10⟩, ⟨o11, h11, r11⟩, od, ks, h12, ⟨es, ep, hd⟩, h13, h14, h15⟩ := n
  rw [hA] at h8; rw [hL] at h9; rw [hN] at h10; rw [hP] at h11
  have nil : Hs N [] := ⟨(fun p hp => nomatch hp), .nil⟩
  have s1 := nil.add h12 (fun p hp => nomatch hp)
  have s2 := s1.add h11 (fun p hp => by
    rcases List.mem_cons.mp hp with rfl | hp
    · exact ne_obj h11 h12 (by rw [r11, hd]; intro q; cases q)
    · cases hp)
  have s3 := s2.add h10 (fun p hp => by
    rcases List.mem_cons.mp hp with rfl | hp
    · exact ne1 _
    rcases List.mem_cons.mp hp with rfl | hp
    · exact ne_obj h10 h12 (by rw [r10, hd]; intro q; cases q)
    · cases hp)
  have s4 := s3.add h9 (fun p hp => by
    rcases List.mem_cons.mp hp with rfl | hp
    · exact ne1 _
    rcases List.mem_cons.mp hp with rfl | hp
    · exact ne2 _
    rcases List.mem_cons.mp hp with rfl | hp
    · exact ne_obj h9 h12 (by rw [r9, hd]; intro q; cases q)
    · cases hp)
  have s5 := s4.add h8 (fun p hp => by
    rcases List.mem_cons.mp hp with rfl | hp
    · exact ne1 _
    rcases List.mem_cons.mp hp with rfl | hp
    · exact ne2 _
    rcases List.mem_cons.mp hp with rfl | hp
    · exact ne3 _
    rcases List.mem_cons.mp hp with rfl | hp
    · exact ne_obj h8 h12 (by rw [r8, hd]; intro q; cases q)
    · cases hp)
  have s6 := s5.add h7 (fun p hp => by
    rcases List.mem_cons.mp hp with rfl | hp
    · exact ne_obj h7 h8 (by rw [r8]; intro q; cases q)
    rcases List.mem_cons.mp hp with rfl | hp
    · exact ne_obj h7 h9 (by rw [r9]; intro q; cases q)
    rcases List.mem_cons.mp hp with rfl | hp
    · exact ne_obj h7 h10 (by rw [r10]; intro q; cases q)
    rcases List.mem_cons.mp hp with rfl | hp
    · exact ne_obj h7 h11 (by rw [r11]; intro q; cases q)
    rcases List.mem_cons.mp hp with rfl | hp
    · exact ne_obj h7 h12 (by rw [hd]; intro q; cases q)
    · cases hp)
  have e6 : ∃ t, v6 = [.str tx0 t] := by
    have h : TxtsAre v6 ([] ++ [tx0]) := r6
    obtain ⟨ws, t, rfl, hw⟩ := txts_unsnoc h
    cases hw
    exact ⟨t, rfl⟩
  obtain ⟨t6, rfl⟩ := e6
  exact ⟨o8, o9, o10, o11, od, r8, r9, r10, r11, ⟨es, ep, hd⟩, s6, ⟨ks, h13, h14⟩, hdue, ⟨t6, k6, h6⟩⟩
theorem Hs.le {N N' : Led} {l : List (Addr × Obj)} (h : Hs N l) (k : Led.Le N N') : Hs N' l := ⟨fun p hp => k _ _ (h.at_ p hp), h.apart⟩
theorem putL_len (name : PySem.Str) (hsh : Int) (key v : Value) : ∀ es : List DictEntry, (putL name hsh key v es).length ≤ es.length + 1
  | [] => by simp [putL]
  | e :: r => by
    unfold putL
    split
    · simp
    · have := putL_len name hsh key v r
      simp only [List.length_cons]; omega
/-- the object's own names -/
structure A5 (k : Nat) (es : List DictEntry) (p g c f : Option Value) : Prop where
  p : getL (Str.ofString "parse") es = some p
  g : getL (Str.ofString "get_field") es = some g
  c : getL (Str.ofString "convert_field") es = some c
  f : getL (Str.ofString "format_field") es = some f
  v : getL (Str.ofString "_vformat") es = some none
  len : es.length ≤ k
theorem A5.zero : A5 0 [] none none none none := ⟨rfl, rfl, rfl, rfl, rfl, Nat.le_refl _⟩
section
variable {k : Nat} {es : List DictEntry} {p g c f : Option Value}
theorem A5.setP (a : A5 k es p g c f) (h : Int) (t : Tok) (x : Value) : A5 (k + 1) (putL (Str.ofString "parse") h (.str (Str.ofString "parse") t) x es) (some x) g c f :=
  ⟨getL_put_same .., getL_put_ne _ _ _ (by decide +kernel) a.g, getL_put_ne _ _ _ (by decide +kernel) a.c, getL_put_ne _ _ _ (by decide +kernel) a.f, getL_put_ne _ _ _ (by decide +kernel) a.v, Nat.le_trans (putL_len ..) (Nat.succ_le_succ a.len)⟩
theorem A5.setG (a : A5 k es p g c f) (h : Int) (t : Tok) (x : Value) : A5 (k + 1) (putL (Str.ofString "get_field") h (.str (Str.ofString "get_field") t) x es) p (some x) c f :=
  ⟨getL_put_ne _ _ _ (by decide +kernel) a.p, getL_put_same .., getL_put_ne _ _ _ (by decide +kernel) a.c, getL_put_ne _ _ _ (by decide +kernel) a.f, getL_put_ne _ _ _ (by decide +kernel) a.v, Nat.le_trans (putL_len ..) (Nat.succ_le_succ a.len)⟩
theorem A5.setC (a : A5 k es p g c f) (h : Int) (t : Tok) (x : Value) : A5 (k + 1) (putL (Str.ofString "convert_field") h (.str (Str.ofString "convert_field") t) x es) p g (some x) f :=
  ⟨getL_put_ne _ _ _ (by decide +kernel) a.p, getL_put_ne _ _ _ (by decide +kernel) a.g, getL_put_same .., getL_put_ne _ _ _ (by decide +kernel) a.f, getL_put_ne _ _ _ (by decide +kernel) a.v, Nat.le_trans (putL_len ..) (Nat.succ_le_succ a.len)⟩
theorem A5.setF (a : A5 k es p g c f) (h : Int) (t : Tok) (x : Value) : A5 (k + 1) (putL (Str.ofString "format_field") h (.str (Str.ofString "format_field") t) x es) p g c (some x) :=
  ⟨getL_put_ne _ _ _ (by decide +kernel) a.p, getL_put_ne _ _ _ (by decide +kernel) a.g, getL_put_ne _ _ _ (by decide +kernel) a.c, getL_put_same .., getL_put_ne _ _ _ (by decide +kernel) a.v, Nat.le_trans (putL_len ..) (Nat.succ_le_succ a.len)⟩
end
/-- the law's world, made -/
structure Made (K : Frag) (w : World) (D : Ad) (P : List (PySem.Str × List Pc)) (dueF : List Ev) (tx0 : PySem.Str) (aDue aTx : Addr) (N : Led) : Prop where
  g : ∃ od, (∃ es ep, od.data = .dict es ep) ∧ N D.pcs = some od ∧ G1 w P dueF tx0 aDue aTx od (N.del D.log)
  ap : D.tab ≠ 115
  cArgs : ∃ o, N D.cArgs = some o ∧ o.data = .cell (some (.ref D.args))
  cLog : ∃ o, N D.cLog = some o ∧ o.data = .cell (some (.ref D.log))
  cNamed : ∃ o, N D.cNamed = some o ∧ o.data = .cell (some (.ref D.named))
  cPcs : ∃ o, N D.cPcs = some o ∧ o.data = .cell (some (.ref D.pcs))
  log : ∃ k, N D.log = some (listOf [].toArray k)
  xf : N D.xf = some (instObj 102 D.dxf)
  dxf : ∃ es n, N D.dxf = some (dictOf es n) ∧ getL (Str.ofString "parse") es = some (some (.ref D.fp)) ∧ getL (Str.ofString "get_field") es = some (some (.ref D.fg)) ∧ getL (Str.ofString "convert_field") es = some (some (.ref D.fc)) ∧
    getL (Str.ofString "format_field") es = some (some (.ref D.ff)) ∧ getL (Str.ofString "_vformat") es = some none
  fp : FnN N D.fp D.cp D.tab [(Str.ofString "pieces", D.cPcs), (Str.ofString "log", D.cLog)] (lamAt K 18)
  fg : ∃ t, FnN N D.fg D.cg t [(Str.ofString "named", D.cNamed), (Str.ofString "log", D.cLog), (Str.ofString "args", D.cArgs)] (lamAt K 19)
  fc : ∃ t, FnN N D.fc D.cc t [(Str.ofString "log", D.cLog)] (lamAt K 20)
  ff : ∃ t, FnN N D.ff D.cf t [(Str.ofString "log", D.cLog)] (lamAt K 21)
  tab : N D.tab = some (tabObj #[])
  own : ∃ ps, N 115 = some (tabObj ps)
/-- the names that are asked for behind the loop -/
structure LQ (aDue aTx : Addr) (depth : Int) (td : Tok) (fault : Option Nat) (free : Nat) (m : PySem.Str → Option Value) : Prop where
  due : m (Str.ofString "due") = some (.ref aDue)
  tx : m (Str.ofString "texts") = some (.ref aTx)
  dep : m (Str.ofString "depth") = some (.int depth td)
  fault : ∃ v, m (Str.ofString "fault") = some v ∧ FaultIs v fault
  free : ∃ t, m (Str.ofString "free") = some (.int (free : Int) t)
noncomputable def cutF (S : Sl) : List Ev := match S.fault with
  | none => S.due
  | some n => S.due.take n
set_option maxRecDepth 100000 in
set_option maxHeartbeats 8000000 in
theorem law_make {w : World} {A : Around} {E : Value → Shared → Prop} {Q : Flow → Shared → Prop} {mg mb : PySem.Str → Option Value} {h₀ : Heap} {m : PySem.Str → Option Value} {N : Led} {z : Zx} {s : Shared} {L : Addr} {X : LA} {S : Sl} {tx0 : PySem.Str} {depth : Int} {en : PySem.Str} {td te : Tok} (G : Glo (hd.heap_1 w.params) mg mb h₀) (BM : BuiltM mg h₀) (hC : CodeHd h₀ 117 115) (hh : A.handled = none)
    (I : In h₀ L m N z s) (n : LN w X S.P S.due S.under S.shown [tx0] N) (M : LM X depth td en te S.fault S.free m) (hdl : S.due.length ≤ 2000) (hA : X.cA = L + 1) (hL : X.cL = L + 1 + 1) (hN : X.cN = L + 1 + 1 + 1) (hcP : X.cP = L + 1 + 1 + 1 + 1)
    (k : ∀ D m' N' s' aDue, Made (hd.heap_1 w.params) w D S.P (cutF S) tx0 aDue X.tx N' → D.cLog = L + 1 + 1 → D.cArgs = L + 1 → D.cNamed = L + 1 + 1 + 1 → LQ aDue X.tx depth td S.fault S.free m' → m' (Str.ofString "formatter") = some (.ref D.xf) → In h₀ L m' N' z s' →
      wpAny (model PySem.Challenge.rw_kp0026_05.prog w) A (execs ((lawB (hd.heap_1 w.params)).drop 22) (lawE (hd.heap_1 w.params) L)) Q E s') :
    wpAny (model PySem.Challenge.rw_kp0026_05.prog w) A (execs ((lawB (hd.heap_1 w.params)).drop 13) (lawE (hd.heap_1 w.params) L)) Q E s := by
  obtain ⟨oA, oL, oN, oP, od, rA, rL, rN, rP, hod, hs, g⟩ := n.base hA hL hN hcP
  obtain ⟨dvs, dk, hdu, hdr⟩ := g.due
  have hdvl : dvs.length ≤ 2000 := by rw [hdr.length, List.length_map]; exact hdl
  obtain ⟨q1, q2, q3, q4, q5, q6, q7, q8, ⟨fv, q9, q9'⟩, ⟨tf, q10⟩⟩ := id M
  refine' seg_go (b := _ :: _) (fun b => b.drop 13) ?ho ?e ?_
  case ho => k_is
  case e => with_unfolding_all rfl
  intro ev QQ
  refine x_ifcut (h₀ := h₀) (L := L) (z := z) (fun m' N' => ∃ aDue, LQ aDue X.tx depth td S.fault S.free m' ∧ G1 w S.P (cutF S) tx0 aDue X.tx od N' ∧ Hs N' [(115, tabObj #[]), (L + 1, oA), (L + 1 + 1, oL), (L + 1 + 1 + 1, oN), (L + 1 + 1 + 1 + 1, oP), (X.P, od)]) ?_ ?_
  · unfold cutF
    cases hf : S.fault with
    | none =>
      rw [hf] at q9'
      rw [q9'.of_none] at q9
      walk_at "gs"
      refine ⟨rfl, m, N, ?_, by assumption⟩
      exact ⟨X.due, ⟨q5, q8, q3, ⟨_, q9, trivial⟩, ⟨tf, q10⟩⟩, g, hs⟩
    | some c =>
      rw [hf] at q9'
      refine letG ?_
      intro GG
      obtain ⟨tc, ec⟩ := q9'.of_some
      rw [ec] at q9
      walk_at "gs"
      refine wpAny_Slice (evalPart_none_step (evalPart_some_step ?_))
      walk_at "gs"
      refine evalPart_none_step ?_
      refine r_slice (by assumption) ⟨_, In.get (by assumption) hdu, rfl, _, rfl⟩ .none (.int _ _) ?_ (by with_unfolding_all rfl) (by intro _; with_unfolding_all rfl) (by rw [List.size_toArray]; show _ ≤ 16777216; omega)
      intro a s1 ha I1
      rw [slicePick_upto'] at I1
      walk_at "gs"
      refine ⟨rfl, _, _, ?_, by assumption⟩
      have g' := g.lt (LT.of (Led.le_put (o := listOf (dvs.take c).toArray 0) ha))
      refine ⟨a, ⟨by walk_at "look", by walk_at "look", by walk_at "look", ⟨.int (c : Int) tc, (by walk_at "look"), rfl⟩, ⟨tf, by walk_at "look"⟩⟩, ⟨g'.pcs, ⟨dvs.take c, 0, Led.put_same, ?_⟩, g'.tx⟩, ⟨fun p hp => Led.put_of (hs.at_ p hp) ha, hs.apart⟩⟩
      rw [List.map_take]
      exact (RowsAre.mono (TupLe.of (Led.le_put ha)) hdr).take c
  rintro m1 N1 s1 ⟨aDue, M1, g1, hs1⟩ I1
  clear I n M hs g hdu hdr q1 q2 q3 q4 q5 q6 q7 q8 q9 q9' q10
  refine letG ?_
  intro GG
  obtain ⟨q1, q2, q3, ⟨fv, q4, q4'⟩, ⟨tf, q5⟩⟩ := id M1
  walk_at "gs"
  rename_i aA s2 ha2 _ I2
  refine r_storeC I2 (c := L + 1) (by with_unfolding_all rfl) (Led.put_of (hs1.get (by walk_at "mem")) ha2) rA ?_
  intro s3 oA' rA' I3
  refine letG ?_
  intro GG
  obtain ⟨N3, ⟨g3, hs3⟩, J3⟩ := In.forget I3 (fun N => G1 w S.P (cutF S) tx0 aDue X.tx od N ∧ Hs N [(115, tabObj #[]), (L + 1, oA'), (L + 1 + 1, oL), (L + 1 + 1 + 1, oN), (L + 1 + 1 + 1 + 1, oP), (X.P, od)])
    ⟨g1.lt ((LT.of (Led.le_put ha2)).trans (LT.put (Led.put_of (hs1.get (by walk_at "mem")) ha2) (not_cell rA))), (hs1.le (Led.le_put ha2)).upd (a := L + 1) (o' := oA') (.there .here)⟩
  clear I1 I2 I3 ha2 hs1 g1
  refine x_assign ?_
  refine r_dict J3 ?_
  intro aN s4 hn4 I4
  refine pairTrees_cons_walk ?_
  walk_at "gs"
  refine pairTrees_nil_walk ?_
  rename_i t5 s5 I5
  refine ⟨[(Str.ofString "y", _)], _, ⟨strKind_is _ _ _ _, rfl, trivial⟩, Led.put_same, I5, ?_⟩
  intro s6 oD I6 _
  have le6 : Led.Le N3 ((N3.put aN dictNew).put aN oD) := fun b o e => by
    have hb : b ≠ aN := fun q => by rw [q, hn4] at e; cases e
    rw [Led.put_ne hb, Led.put_ne hb]; exact e
  refine r_storeC I6 (c := L + 1 + 1 + 1) (by with_unfolding_all rfl) (le6 _ _ (hs3.get (by walk_at "mem"))) rN ?_
  intro s7 oN' rN' I7
  refine letG ?_
  intro GG
  obtain ⟨N7, ⟨g7, hs7⟩, J7⟩ := In.forget I7 (fun N => G1 w S.P (cutF S) tx0 aDue X.tx od N ∧ Hs N [(115, tabObj #[]), (L + 1, oA'), (L + 1 + 1, oL), (L + 1 + 1 + 1, oN'), (L + 1 + 1 + 1 + 1, oP), (X.P, od)])
    ⟨g3.lt ((LT.of le6).trans (LT.put (le6 _ _ (hs3.get (by walk_at "mem"))) (not_cell rN))), (hs3.le le6).upd (a := L + 1 + 1 + 1) (o' := oN') (.there (.there (.there .here)))⟩
  clear J3 I4 I5 I6 I7 hn4 le6 hs3 g3
  walk_at "gs"
  rename_i aL s8 hl8 _ I8
  refine r_storeC I8 (c := L + 1 + 1) (by with_unfolding_all rfl) (Led.put_of (hs7.get (by walk_at "mem")) hl8) rL ?_
  intro s9 oL' rL' I9
  refine letG ?_
  intro GG
  obtain ⟨N9, ⟨g9, hs9⟩, J9⟩ := In.forget I9 (fun N => G1 w S.P (cutF S) tx0 aDue X.tx od (N.del aL) ∧ Hs N [(aL, listOf [].toArray 0), (115, tabObj #[]), (L + 1, oA'), (L + 1 + 1, oL'), (L + 1 + 1 + 1, oN'), (L + 1 + 1 + 1 + 1, oP), (X.P, od)])
    ⟨g7.lt (((LT.of (Led.le_put hl8)).trans (LT.put (Led.put_of (hs7.get (by walk_at "mem")) hl8) (not_cell rL))).toDel hl8), (hs7.new hl8).upd (a := L + 1 + 1) (o' := oL') (.there (.there (.there .here)))⟩
  clear J7 I8 I9 hl8 hs7 g7
  walk_at "gs"
  refine callWith_K0 (G.X.keeps (Fr.keep (In.fr (by assumption)))) (by k_is) ?_
  refine r_make0 G (by assumption) (by k_is) (by k_is) ?_
  intro xf dxf s10 hd1 hd2 hne I10
  refine letG ?_
  intro GG
  obtain ⟨N10, ⟨g10, hs10⟩, J10⟩ := In.forget I10 (fun N => G1 w S.P (cutF S) tx0 aDue X.tx od (N.del aL) ∧ Hs N [(xf, instObj 102 dxf), (dxf, dictOf [] 0), (aL, listOf [].toArray 0), (115, tabObj #[]), (L + 1, oA'), (L + 1 + 1, oL'), (L + 1 + 1 + 1, oN'), (L + 1 + 1 + 1 + 1, oP), (X.P, od)])
    ⟨g9.lt (((LT.of (Led.le_put hd1)).trans (LT.of (Led.le_put (Led.put_none hd2 hne)))).del aL), (hs9.new hd1).new (Led.put_none hd2 hne)⟩
  clear J9 I10 hd1 hd2 hne hs9 g9
  walk_at "gs"
  rename_i s11 I11 _
  refine x_cons (plainObj_wpAny_Assign_Attribute ?_ (by with_unfolding_all rfl))
  refine r_lamNew I11 G.g BM (by with_unfolding_all rfl) (by intro q; cases q) (by with_unfolding_all rfl) (hC.keeps I11.fr.keep) (hs10.get (by walk_at "mem")) (by kn_triples) (by kn_among) ?_
  intro f1 c1 P1 ct1 N11 s12 M12 I12
  refine letG ?_
  intro GG
  obtain ⟨oc1, hdo1, hro1, hs11⟩ := hs10.lam M12 (.there (.there (.there .here)))
  have g11 := g10.lt ((M12.lt (hs10.get (by walk_at "mem"))).del aL)
  have hap : P1 ≠ 115 := fun q => by
    have h := M12.nP
    rw [q, hs10.get (a := 115) (o := tabObj #[]) (by walk_at "mem")] at h; cases h
  clear I11 J10 hs10 g10 M12
  walk_at "gs"
  refine r_setAttr G I12 (hs11.get (by walk_at "mem")) (hs11.get (by walk_at "mem")) (by k_is) (by k_is) (by k_is) (by k_is) rfl (by decide) ?_
  intro s13 tk1 I13
  refine letG ?_
  intro GG
  obtain ⟨es1, n1, ee1, a1⟩ : ∃ es n, dictOf (putL (Str.ofString "parse") (PyData.keyHash w.params (Str.ofString "parse")) (.str (Str.ofString "parse") tk1) (.ref f1) []) (putN (Str.ofString "parse") [] 0) = dictOf es n ∧ A5 1 es (some (.ref f1)) none none none := ⟨_, _, rfl, A5.zero.setP _ _ _⟩
  rw [ee1] at I13
  have hs13 := hs11.upd (a := dxf) (o' := dictOf es1 n1) (.there (.there (.there (.there .here))))
  have g13 := g11.lt ((LT.put (a := dxf) (o := dictOf [] 0) (o' := dictOf es1 n1) (hs11.get (by walk_at "mem")) (not_dict rfl)).del aL)
  clear I12 hs11 g11 ee1
  generalize N11.put dxf (dictOf es1 n1) = N13 at I13 hs13 g13
  refine then_next ?_
  refine x_cons (plainObj_wpAny_Assign_Attribute ?_ (by with_unfolding_all rfl))
  refine r_lamNew I13 G.g BM (by with_unfolding_all rfl) (by intro q; cases q) (by with_unfolding_all rfl) (hC.keeps I13.fr.keep) (hs13.get (by walk_at "mem")) (by kn_triples) (by kn_among) ?_
  intro f2 c2 P2 ct2 N21 s22 M22 I22
  refine letG ?_
  intro GG
  obtain ⟨oc2, hdo2, hro2, hs21⟩ := hs13.lam M22 (.there (.there (.there (.there (.there (.there (.here)))))))
  have g21 := g13.lt ((M22.lt (hs13.get (by walk_at "mem"))).del aL)
  clear I13 hs13 g13 M22
  walk_at "gs"
  refine r_setAttr G I22 (hs21.get (by walk_at "mem")) (hs21.get (by walk_at "mem")) (by k_is) (by k_is) (by k_is) (by k_is) (by first | rw [a1.g]; rfl | rw [a1.c]; rfl | rw [a1.f]; rfl) (by have := a1.len; omega) ?_
  intro s23 tk2 I23
  refine letG ?_
  intro GG
  obtain ⟨es2, n2, ee2, a2⟩ : ∃ es n, dictOf (putL (Str.ofString "get_field") (PyData.keyHash w.params (Str.ofString "get_field")) (.str (Str.ofString "get_field") tk2) (.ref f2) es1) (putN (Str.ofString "get_field") es1 n1) = dictOf es n ∧ A5 2 es (some (.ref f1)) (some (.ref f2)) none none := ⟨_, _, rfl, a1.setG _ _ _⟩
  rw [ee2] at I23
  have hs23 := hs21.upd (a := dxf) (o' := dictOf es2 n2) (.there (.there (.there (.there (.there (.there (.there (.here))))))))
  have g23 := g21.lt ((LT.put (a := dxf) (o := dictOf es1 n1) (o' := dictOf es2 n2) (hs21.get (by walk_at "mem")) (not_dict rfl)).del aL)
  clear I22 hs21 g21 ee2
  generalize N21.put dxf (dictOf es2 n2) = N23 at I23 hs23 g23
  refine then_next ?_
  refine x_cons (plainObj_wpAny_Assign_Attribute ?_ (by with_unfolding_all rfl))
  refine r_lamNew I23 G.g BM (by with_unfolding_all rfl) (by intro q; cases q) (by with_unfolding_all rfl) (hC.keeps I23.fr.keep) (hs23.get (by walk_at "mem")) (by kn_triples) (by kn_among) ?_
  intro f3 c3 P3 ct3 N31 s32 M32 I32
  refine letG ?_
  intro GG
  obtain ⟨oc3, hdo3, hro3, hs31⟩ := hs23.lam M32 (.there (.there (.there (.there (.there (.there (.there (.there (.there (.here))))))))))
  have g31 := g23.lt ((M32.lt (hs23.get (by walk_at "mem"))).del aL)
  clear I23 hs23 g23 M32
  walk_at "gs"
  refine r_setAttr G I32 (hs31.get (by walk_at "mem")) (hs31.get (by walk_at "mem")) (by k_is) (by k_is) (by k_is) (by k_is) (by first | rw [a2.g]; rfl | rw [a2.c]; rfl | rw [a2.f]; rfl) (by have := a2.len; omega) ?_
  intro s33 tk3 I33
  refine letG ?_
  intro GG
  obtain ⟨es3, n3, ee3, a3⟩ : ∃ es n, dictOf (putL (Str.ofString "convert_field") (PyData.keyHash w.params (Str.ofString "convert_field")) (.str (Str.ofString "convert_field") tk3) (.ref f3) es2) (putN (Str.ofString "convert_field") es2 n2) = dictOf es n ∧ A5 3 es (some (.ref f1)) (some (.ref f2)) (some (.ref f3)) none := ⟨_, _, rfl, a2.setC _ _ _⟩
  rw [ee3] at I33
  have hs33 := hs31.upd (a := dxf) (o' := dictOf es3 n3) (.there (.there (.there (.there (.there (.there (.there (.there (.there (.there (.here)))))))))))
  have g33 := g31.lt ((LT.put (a := dxf) (o := dictOf es2 n2) (o' := dictOf es3 n3) (hs31.get (by walk_at "mem")) (not_dict rfl)).del aL)
  clear I32 hs31 g31 ee3
  generalize N31.put dxf (dictOf es3 n3) = N33 at I33 hs33 g33
  refine then_next ?_
  refine x_cons (plainObj_wpAny_Assign_Attribute ?_ (by with_unfolding_all rfl))
  refine r_lamNew I33 G.g BM (by with_unfolding_all rfl) (by intro q; cases q) (by with_unfolding_all rfl) (hC.keeps I33.fr.keep) (hs33.get (by walk_at "mem")) (by kn_triples) (by kn_among) ?_
  intro f4 c4 P4 ct4 N41 s42 M42 I42
  refine letG ?_
  intro GG
  obtain ⟨oc4, hdo4, hro4, hs41⟩ := hs33.lam M42 (.there (.there (.there (.there (.there (.there (.there (.there (.there (.there (.there (.there (.here)))))))))))))
  have g41 := g33.lt ((M42.lt (hs33.get (by walk_at "mem"))).del aL)
  clear I33 hs33 g33 M42
  walk_at "gs"
  refine r_setAttr G I42 (hs41.get (by walk_at "mem")) (hs41.get (by walk_at "mem")) (by k_is) (by k_is) (by k_is) (by k_is) (by first | rw [a3.g]; rfl | rw [a3.c]; rfl | rw [a3.f]; rfl) (by have := a3.len; omega) ?_
  intro s43 tk4 I43
  refine letG ?_
  intro GG
  obtain ⟨es4, n4, ee4, a4⟩ : ∃ es n, dictOf (putL (Str.ofString "format_field") (PyData.keyHash w.params (Str.ofString "format_field")) (.str (Str.ofString "format_field") tk4) (.ref f4) es3) (putN (Str.ofString "format_field") es3 n3) = dictOf es n ∧ A5 4 es (some (.ref f1)) (some (.ref f2)) (some (.ref f3)) (some (.ref f4)) := ⟨_, _, rfl, a3.setF _ _ _⟩
  rw [ee4] at I43
  have hs43 := hs41.upd (a := dxf) (o' := dictOf es4 n4) (.there (.there (.there (.there (.there (.there (.there (.there (.there (.there (.there (.there (.there (.here))))))))))))))
  have g43 := g41.lt ((LT.put (a := dxf) (o := dictOf es3 n3) (o' := dictOf es4 n4) (hs41.get (by walk_at "mem")) (not_dict rfl)).del aL)
  clear I42 hs41 g41 ee4
  generalize N41.put dxf (dictOf es4 n4) = N43 at I43 hs43 g43
  refine then_next ?_
  refine' seg_back (K := hd.heap_1 w.params) (fun b => b.drop 22) ?ho2 ?e2 ?_
  case ho2 => k_is
  case e2 => with_unfolding_all rfl
  refine k { log := aL, used := 0, tab := P1, cLog := L + 1 + 1, cPcs := L + 1 + 1 + 1 + 1, cArgs := L + 1, cNamed := L + 1 + 1 + 1, pcs := X.P, args := aA, named := aN, xf := xf, dxf := dxf, fp := f1, cp := c1, fg := f2, cg := c2, fc := f3, cc := c3, ff := f4, cf := c4 } _ _ _ aDue ?_ rfl rfl rfl ?_ (by walk_at "look") I43
  · refine { g := ⟨od, hod, hs43.get (by walk_at "mem"), g43⟩, ap := ?_, cArgs := ⟨_, hs43.get (by walk_at "mem"), rA'⟩, cLog := ⟨_, hs43.get (by walk_at "mem"), rL'⟩, cNamed := ⟨_, hs43.get (by walk_at "mem"), rN'⟩, cPcs := ⟨_, hs43.get (by walk_at "mem"), rP⟩, log := ⟨0, hs43.get (by walk_at "mem")⟩, xf := hs43.get (by walk_at "mem"), dxf := ⟨es4, n4, hs43.get (by walk_at "mem"), a4.p, a4.g, a4.c, a4.f, a4.v⟩, fp := ?_, fg := ⟨P2, ?_⟩, fc := ⟨P3, ?_⟩, ff := ⟨P4, ?_⟩, tab := hs43.get (by walk_at "mem"), own := ⟨_, hs43.get (a := 115) (by walk_at "mem")⟩ }
    · exact hap
    · refine' ⟨_, _, _, _, _, _, oc1, lam_is ?h1 ?e1, hs43.get ?m1, hs43.get ?m2, hdo1, hro1⟩
      case h1 => k_is
      case e1 => with_unfolding_all rfl
      case m1 => walk_at "mem"
      case m2 => walk_at "mem"
    · refine' ⟨_, _, _, _, _, _, oc2, lam_is ?h1 ?e1, hs43.get ?m1, hs43.get ?m2, hdo2, hro2⟩
      case h1 => k_is
      case e1 => with_unfolding_all rfl
      case m1 => walk_at "mem"
      case m2 => walk_at "mem"
    · refine' ⟨_, _, _, _, _, _, oc3, lam_is ?h1 ?e1, hs43.get ?m1, hs43.get ?m2, hdo3, hro3⟩
      case h1 => k_is
      case e1 => with_unfolding_all rfl
      case m1 => walk_at "mem"
      case m2 => walk_at "mem"
    · refine' ⟨_, _, _, _, _, _, oc4, lam_is ?h1 ?e1, hs43.get ?m1, hs43.get ?m2, hdo4, hro4⟩
      case h1 => k_is
      case e1 => with_unfolding_all rfl
      case m1 => walk_at "mem"
      case m2 => walk_at "mem"
  · exact ⟨by walk_at "look", by walk_at "look", by walk_at "look", ⟨fv, by walk_at "look", q4'⟩, ⟨tf, by walk_at "look"⟩⟩
-- part C16
/-- as loop_walkN; of what the loop itself keeps, the kind is known -/
theorem loop_walkK {prog : Program} {w : World} {A : Around} {E : Value → Shared → Prop} {h₀ : Heap} {env : Env} {x : PySem.Str} {px : Pos} {body : List Stmt} {Q : Flow → Shared → Prop}
    {I : Addr} {fp : List Addr} {n : Nat} {P : Nat → Value → Prop} {St : Nat → Heap → Prop} {m : PySem.Str → Option Value} {N : Led} {z : Zx} {s : Shared} (kind : Obj → Prop)
    (Inv : Nat → (PySem.Str → Option Value) → Led → Prop) (W : Walks prog w A I fp [I] n P St) (hI : In h₀ env.locals m N z s)
    (h1 : I ≠ env.locals) (h2 : h₀.get? I = none) (hzp : z.prot I = none) (hN : N I = none) (hst : St 0 s.heap) (h0 : Inv 0 m N)
    (alive : ∀ i h, St i h → ∃ o, h.get? I = some o ∧ kind o)
    (hfp : ∀ b ∈ fp, b = I)
    (turn : ∀ i v m N z' s, i < n → P i v → Inv i m N → Zle z z' → (∀ a o, z'.prot a = some o → z.prot a = some o ∨ kind o) → In h₀ env.locals m N z' s → wpAny (model prog w) A (storeName env x v) (fun _ s₁ => wpAny (model prog w) A (execs body env) (fun f s' => match f with
      | .ret v => Q (.ret v) s'
      | .brk => Q .next s'
      | _ => ∃ m' N', Inv (i + 1) m' N' ∧ In h₀ env.locals m' N' z' s') (fun _ _ => False) s₁) (fun _ _ => False) s)
    (done : ∀ m N s, Inv n m N → In h₀ env.locals m N z s → Q .next s) :
    codeAny (model prog w) A (.forLoop (.Name x px) (.ref I) body [] env) (fun r s' => match r with | .ok f => Q f s' | .error e => cameBackBy (model prog w) A env E e s') s := by
  refine codeAny_mono (codeAny_forLoop (R := fun r s' => ∃ f, r = .ok f ∧ Q f s')
    (fun k s => ∃ i m N, k = n - i ∧ i ≤ n ∧ N I = none ∧ Inv i m N ∧ In h₀ env.locals m N z s ∧ St i s.heap) ?_ n ⟨0, m, N, rfl, Nat.zero_le _, hN, h0, hI, hst⟩) ?_
  · rintro k s ⟨i, m, N, rfl, hi, hNI, hinv, hin, hst⟩
    rcases Nat.lt_or_ge i n with hlt | hge
    · refine W.item i s _ _ hlt hst fun v h' tk hP hst' hk' => ?_
      have hin' : In h₀ env.locals m N z { s with heap := h', toks := tk } := hin.iter h1 h2 hNI hzp (fun b o hb e => hk' b o (fun hm => hb (List.mem_singleton.mp hm)) e)
      obtain ⟨o, hg, hkd⟩ := alive _ _ hst'
      have hin2 : In h₀ env.locals m N (z.add I o) { s with heap := h', toks := tk } := hin'.addProt hg h1 h2 hNI
      have hz : Zle z (z.add I o) := ⟨rfl, Led.le_put hzp⟩
      refine wpAny_assign_Name ?_
      refine wpAny_mono (turn i v m N (z.add I o) _ hlt hP hinv hz (fun a o' e => ?_) hin2) (fun _ s₂ y₂ => ?_) fun _ _ y => y.elim
      · by_cases ha : a = I
        · have e2 : (z.prot.put I o) a = some o' := e
          rw [ha, Led.put_same] at e2; cases e2; exact .inr hkd
        · have e2 : (z.prot.put I o) a = some o' := e
          rw [Led.put_ne ha] at e2; exact .inl e2
      refine wpAny_mono y₂ (fun f s₃ y => ?_) fun _ _ y => y.elim
      have fin : (∃ m' N', Inv (i + 1) m' N' ∧ In h₀ env.locals m' N' (z.add I o) s₃) → ∃ k', k' < n - i ∧ ∃ i m N, k' = n - i ∧ i ≤ n ∧ N I = none ∧ Inv i m N ∧ In h₀ env.locals m N z s₃ ∧ St i s₃.heap := by
        rintro ⟨m', N', hinv', hin3⟩
        refine ⟨n - (i + 1), by omega, i + 1, m', N', rfl, hlt, (hin3.prot I o Led.put_same).2.2.2, hinv', hin3.drop hz, W.frame _ _ _ hst' fun b hb o' e => ?_⟩
        have hbI := hfp b hb
        subst hbI
        have e' : h'.get? b = some o' := e
        rw [hg] at e'; cases e'
        exact (hin3.prot b o Led.put_same).1
      cases f with
      | ret v => exact ⟨_, rfl, y⟩
      | brk => exact ⟨_, rfl, y⟩
      | next => exact fin y
      | cont => exact fin y
    · have hin0 : i = n := by omega
      subst hin0
      refine W.done s _ _ hst fun h' tk hk' => ?_
      exact wpAny_execs_nil ⟨_, rfl, done m N _ hinv (hin.iter h1 h2 hNI hzp (fun b o hb e => hk' b o (fun hm => hb (List.mem_singleton.mp hm)) e))⟩
  · rintro r s' ⟨f, rfl, q⟩
    exact q
noncomputable def IsRI (o : Obj) : Prop := o.cls = .type "range_iterator"
theorem r_iterRK {prog : Program} {w : World} {A : Around} {E : Value → Shared → Prop} {h₀ : Heap} {m : PySem.Str → Option Value} {N : Led} {z : Zx} {s : Shared} {env : Env} {x : PySem.Str} {px : Pos} {body : List Stmt} {Q : Flow → Shared → Prop} {r : Addr} {n : Nat} {t u v : Tok} (Inv : Nat → (PySem.Str → Option Value) → Led → Prop) (hh : A.handled = none) (hI : In h₀ env.locals m N z s) (hr : IsRange s.heap r 0 n 1 t u v) (hn : n ≤ 1000000) (h0 : Inv 0 m N)
    (turn : ∀ i t m N z' s, i < n → Inv i m N → Zle z z' → (∀ a o, z'.prot a = some o → z.prot a = some o ∨ IsRI o) → In h₀ env.locals m N z' s → wpAny (model prog w) A (storeName env x (.int (i : Int) t)) (fun _ s₁ => wpAny (model prog w) A (execs body env) (fun f s' => match f with
      | .ret v => Q (.ret v) s'
      | .brk => Q .next s'
      | _ => ∃ m' N', Inv (i + 1) m' N' ∧ In h₀ env.locals m' N' z' s') (fun _ _ => False) s₁) (fun _ _ => False) s)
    (done : ∀ m N s, Inv n m N → In h₀ env.locals m N z s → Q .next s) :
    wpAny (model prog w) A (pyIter (.ref r)) (fun it s₂ => codeAny (model prog w) A (.forLoop (.Name x px) it body [] env) (fun r s' => match r with | .ok f => Q f s' | .error e => cameBackBy (model prog w) A env E e s') s₂) E s := by
  have hs2 : Builtin.Range.rangeSize 0 (n : Int) 1 = (n : Int) := by rw [rangeSize_one]; split <;> omega
  refine wpAny_pyIter_range hr (small_one (by decide) (by decide) (by omega) (by omega)) ?_
  have hfr := hI.fresh
  have hfa := hI.freshAll
  have hin : In h₀ env.locals m N z { s with heap := s.heap.push { cls := .type "range_iterator", data := .fields #[rawInt 0, rawInt (Builtin.Range.rangeSize 0 n 1), rawInt 1] } } := hI.keeps ⟨_, _, rfl, fun _ _ e => Heap.get?_push_of_some _ e⟩
  refine loop_walkK IsRI Inv (Walks.range hh s.heap.objs.size 0 1 n) hin hfa.1 hfa.2.1 hfa.2.2 hfr ?_ h0 (fun i h hst => ⟨_, hst, rfl⟩) (fun b hb => List.mem_singleton.mp hb) ?_ ?_
  · have e1 : (0 + ((0 : Nat) : Int) * 1) = 0 := by simp
    have e2 : ((n : Int) - ((0 : Nat) : Int)) = Builtin.Range.rangeSize 0 n 1 := by rw [hs2]; simp
    rw [e1, e2]
    exact Heap.get?_push_size _ rfl
  · intro i v m' N' z' s₂ hi hP hv hzl hz2 I₂
    obtain ⟨t, rfl⟩ := hP
    have e : (0 + (i : Int) * 1) = (i : Int) := by omega
    rw [e]
    exact turn i t m' N' z' s₂ hi hv hzl hz2 I₂
  · exact done
noncomputable def TabN (K : Frag) (ps : Array Value) (N : Led) (h₀ : Heap) : Prop := ps = #[] ∨ ∃ l c, innerAt K = some l ∧ ps = #[rawInt l.2.2.2.line, rawInt l.2.2.2.col, .ref c] ∧ ∃ o vs, (N c = some o ∨ h₀.get? c = some o) ∧ o.cls = .type "code" ∧ o.data = .fields vs ∧ RecO o c qI
/-- the law's world between two turns -/
structure MW (K : Frag) (w : World) (D : Ad) (P : List (PySem.Str × List Pc)) (dueF : List Ev) (tx0 : PySem.Str) (aDue aTx : Addr) (h₀ : Heap) (N : Led) : Prop where
  g : ∃ od, (∃ es ep, od.data = .dict es ep) ∧ N D.pcs = some od ∧ G1 w P dueF tx0 aDue aTx od (N.del D.log)
  ap : D.tab ≠ 115
  cArgs : ∃ o, N D.cArgs = some o ∧ o.data = .cell (some (.ref D.args))
  cLog : ∃ o, N D.cLog = some o ∧ o.data = .cell (some (.ref D.log))
  cNamed : ∃ o, N D.cNamed = some o ∧ o.data = .cell (some (.ref D.named))
  cPcs : ∃ o, N D.cPcs = some o ∧ o.data = .cell (some (.ref D.pcs))
  log : ∃ (vs : List Value) (k : Nat), N D.log = some (listOf vs.toArray k) ∧ vs.length ≤ 60000
  xf : N D.xf = some (instObj 102 D.dxf)
  dxf : ∃ es n, N D.dxf = some (dictOf es n) ∧ getL (Str.ofString "parse") es = some (some (.ref D.fp)) ∧ getL (Str.ofString "get_field") es = some (some (.ref D.fg)) ∧ getL (Str.ofString "convert_field") es = some (some (.ref D.fc)) ∧
    getL (Str.ofString "format_field") es = some (some (.ref D.ff)) ∧ getL (Str.ofString "_vformat") es = some none
  fp : FnN N D.fp D.cp D.tab [(Str.ofString "pieces", D.cPcs), (Str.ofString "log", D.cLog)] (lamAt K 18)
  fg : ∃ t, FnN N D.fg D.cg t [(Str.ofString "named", D.cNamed), (Str.ofString "log", D.cLog), (Str.ofString "args", D.cArgs)] (lamAt K 19)
  fc : ∃ t, FnN N D.fc D.cc t [(Str.ofString "log", D.cLog)] (lamAt K 20)
  ff : ∃ t, FnN N D.ff D.cf t [(Str.ofString "log", D.cLog)] (lamAt K 21)
  tab : ∃ ps, N D.tab = some (tabObj ps) ∧ TabN K ps N h₀
  own : ∃ ps, N 115 = some (tabObj ps)
section
variable {K : Frag} {w : World} {D : Ad} {P : List (PySem.Str × List Pc)} {dueF : List Ev} {tx0 : PySem.Str} {aDue aTx : Addr} {h₀ : Heap} {N N' : Led}
theorem Made.mw (M : Made K w D P dueF tx0 aDue aTx N) : MW K w D P dueF tx0 aDue aTx h₀ N :=
  { g := M.g, ap := M.ap, cArgs := M.cArgs, cLog := M.cLog, cNamed := M.cNamed, cPcs := M.cPcs, log := by obtain ⟨k, h⟩ := M.log; exact ⟨[], k, h, Nat.zero_le _⟩, xf := M.xf, dxf := M.dxf, fp := M.fp, fg := M.fg, fc := M.fc, ff := M.ff, tab := ⟨_, M.tab, .inl rfl⟩, own := M.own }
/-- none of the kinds that a call of _vformat changes -/
noncomputable def NotW (o : Obj) : Prop := (∀ vs n, o ≠ listOf vs n) ∧ (∀ es ep t, o.data ≠ .set es ep t) ∧ ∀ ps, o ≠ tabObj ps
theorem notW_cell {o : Obj} {v : Option Value} (h : o.data = .cell v) : NotW o := ⟨(fun vs n q => by subst q; cases h), (fun es ep t q => by rw [h] at q; cases q), fun ps q => by subst q; cases h⟩
theorem notW_dict {o : Obj} {es : Array DictEntry} {n : Nat} (h : o.data = .dict es n) : NotW o := ⟨(fun vs n q => by subst q; cases h), (fun es ep t q => by rw [h] at q; cases q), fun ps q => by subst q; cases h⟩
theorem notW_func {o : Obj} {f : FuncData} (h : o.data = .func f) : NotW o := ⟨(fun vs n q => by subst q; cases h), (fun es ep t q => by rw [h] at q; cases q), fun ps q => by subst q; cases h⟩
theorem notW_plain {o : Obj} (h : o.data = .plain) : NotW o := ⟨(fun vs n q => by subst q; cases h), (fun es ep t q => by rw [h] at q; cases q), fun ps q => by subst q; cases h⟩
theorem notW_code {o : Obj} {vs : Array Value} (h : o.cls = .type "code") (hd : o.data = .fields vs) : NotW o := ⟨(fun vs n q => by subst q; cases hd), (fun es ep t q => by rw [hd] at q; cases q), fun ps q => by subst q; cases h⟩
theorem hdO_obj {h : Heap} {o : Obj} {c Pt : Addr} (x : HdO o c Pt) (e : h.get? c = some o) : ∃ vs, o.cls = .type "code" ∧ o.data = .fields vs := by
  obtain ⟨o', vs, _, _, _, _, _, _, _, e', h1, h2, _⟩ := x h e
  rw [e] at e'; cases e'
  exact ⟨vs, h1, h2⟩
theorem FnN.mono {f c Pt : Addr} {clos : List (PySem.Str × Addr)} {l : Option Lam} {h : Heap} (x : FnN N f c Pt clos l) (hh : ∀ a o, N a = some o → h.get? a = some o) (k : ∀ a o, N a = some o → NotW o → N' a = some o) : FnN N' f c Pt clos l := by
  obtain ⟨a, b, sc, p, pm, ctv, oc, h1, h2, h3, h4, h5⟩ := x
  obtain ⟨vs, e1, e2⟩ := hdO_obj h4 (hh _ _ h3)
  exact ⟨a, b, sc, p, pm, ctv, oc, h1, k _ _ h2 (notW_func rfl), k _ _ h3 (notW_code e1 e2), h4, h5⟩
theorem MW.move {h : Heap} (M : MW K w D P dueF tx0 aDue aTx h₀ N) (hh : ∀ a o, N a = some o → h.get? a = some o) (k : ∀ a o, N a = some o → NotW o → N' a = some o) (k2 : LT (N.del D.log) (N'.del D.log))
    (log : ∃ (vs : List Value) (k : Nat), N' D.log = some (listOf vs.toArray k) ∧ vs.length ≤ 60000) (tab : ∃ ps, N' D.tab = some (tabObj ps) ∧ TabN K ps N' h₀) (own : ∃ ps, N' 115 = some (tabObj ps)) : MW K w D P dueF tx0 aDue aTx h₀ N' := by
  obtain ⟨⟨od, ⟨es, ep, hd⟩, h1, g⟩, ap, ⟨o1, a1, b1⟩, ⟨o2, a2, b2⟩, ⟨o3, a3, b3⟩, ⟨o4, a4, b4⟩, _, xf, ⟨es', n', d1, d2⟩, fp, ⟨t1, fg⟩, ⟨t2, fc⟩, ⟨t3, ff⟩, _, _⟩ := M
  exact ⟨⟨od, ⟨es, ep, hd⟩, k _ _ h1 (notW_dict hd), g.lt k2⟩, ap, ⟨o1, k _ _ a1 (notW_cell b1), b1⟩, ⟨o2, k _ _ a2 (notW_cell b2), b2⟩, ⟨o3, k _ _ a3 (notW_cell b3), b3⟩, ⟨o4, k _ _ a4 (notW_cell b4), b4⟩, log, k _ _ xf (notW_plain rfl), ⟨es', n', k _ _ d1 (notW_dict rfl), d2⟩,
    fp.mono hh k, ⟨t1, fg.mono hh k⟩, ⟨t2, fc.mono hh k⟩, ⟨t3, ff.mono hh k⟩, tab, own⟩
theorem TabN.mono {ps : Array Value} (x : TabN K ps N h₀) (k : ∀ a o, N a = some o → NotW o → N' a = some o) : TabN K ps N' h₀ := by
  rcases x with x | ⟨l, c, h1, h2, o, vs, h3, h4, h5, h6⟩
  · exact .inl x
  · exact .inr ⟨l, c, h1, h2, o, vs, h3.imp (fun e => k _ _ e (notW_code h4 h5)) id, h4, h5, h6⟩
theorem MW.le {h : Heap} (M : MW K w D P dueF tx0 aDue aTx h₀ N) (hh : ∀ a o, N a = some o → h.get? a = some o) (l : Led.Le N N') : MW K w D P dueF tx0 aDue aTx h₀ N' := by
  obtain ⟨vs, k, e, hl⟩ := M.log
  obtain ⟨ps, e1, e2⟩ := M.tab
  obtain ⟨ps', e3⟩ := M.own
  exact M.move hh (fun a o e _ => l a o e) ((LT.of l).del _) ⟨vs, k, l _ _ e, hl⟩ ⟨ps, l _ _ e1, e2.mono fun a o e _ => l a o e⟩ ⟨ps', l _ _ e3⟩
theorem MW.setLog {h : Heap} (M : MW K w D P dueF tx0 aDue aTx h₀ N) (hh : ∀ a o, N a = some o → h.get? a = some o) {vs : List Value} {k : Nat} (hl : vs.length ≤ 60000) : MW K w D P dueF tx0 aDue aTx h₀ (N.put D.log (listOf vs.toArray k)) := by
  obtain ⟨vs0, k0, e, _⟩ := M.log
  obtain ⟨ps, e1, e2⟩ := M.tab
  obtain ⟨ps', e3⟩ := M.own
  have kk : ∀ a o, N a = some o → (∀ vs n, o ≠ listOf vs n) → (N.put D.log (listOf vs.toArray k)) a = some o := fun a o q hn => by
    rw [Led.put_ne]; exact q
    intro y; rw [y, e] at q; cases q; exact hn _ _ rfl
  have kk' : ∀ a o, N a = some o → NotW o → (N.put D.log (listOf vs.toArray k)) a = some o := fun a o q hn => kk a o q hn.1
  refine M.move hh kk' (fun a o q _ => ?_) ⟨vs, k, Led.put_same, hl⟩ ⟨ps, kk _ _ e1 (by intro vs n q; cases congrArg Obj.data q), e2.mono kk'⟩ ⟨ps', kk _ _ e3 (by intro vs n q; cases congrArg Obj.data q)⟩
  obtain ⟨q1, q2⟩ := Led.del_of q
  exact Led.del_ne ((Led.put_ne q2).trans q1) q2
theorem TabN.ok {ps : Array Value} {L : Addr} {m : PySem.Str → Option Value} {z : Zx} {s : Shared} (x : TabN K ps N h₀) (I : In h₀ L m N z s) : TabOk K ps s.heap := by
  rcases x with x | ⟨l, c, h1, h2, o, vs, h3, h4, h5, h6⟩
  · exact .inl x
  · exact .inr ⟨l, c, h1, h2, o, vs, h3.elim (fun e => (I.led _ _ e).1) (fun e => I.fr.keep _ _ e), h4, h5, h6⟩
end
section
variable {w : World} {D : Ad} {P : List (PySem.Str × List Pc)} {dueF : List Ev} {tx0 : PySem.Str} {aDue aTx : Addr} {h₀ : Heap} {N N' : Led} {K : Frag} {mg mb : PySem.Str → Option Value} {L : Addr} {m : PySem.Str → Option Value} {z : Zx} {s s' : Shared}
/-- the world as _vformat's walk wants it -/
theorem MW.wld (M : MW K w D P dueF tx0 aDue aTx h₀ N) (I : In h₀ L m N z s) (G : Glo K mg mb h₀) (BM : BuiltM mg h₀) {U : Addr} {ou : Obj} (hU : N U = some ou) (hS : s.heap.SetOf (strKind PySem.Challenge.rw_kp0026_05.prog w) U (fun _ => false) 0) {k : Nat} (hlog : N D.log = some (listOf [].toArray k)) :
    Wld K w mg mb { D with used := U } P ⟨[], fun _ => false, 0⟩ s := by
  obtain ⟨⟨od, ⟨es, ep, hd⟩, h1, ⟨ks, g1, g2⟩, _, _⟩, ap, ⟨o1, a1, b1⟩, ⟨o2, a2, b2⟩, ⟨o3, a3, b3⟩, ⟨o4, a4, b4⟩, _, xf, ⟨es', n', d1, d2⟩, fp, ⟨t1, fg⟩, ⟨t2, fc⟩, ⟨t3, ff⟩, ⟨ps, ht, htn⟩, _⟩ := M
  have hsd : ∃ es ep t, ou.data = .set es ep t := by
    obtain ⟨o, es, ep, t, e, _, e2, _⟩ := hS
    rw [I.get hU] at e; cases e
    exact ⟨es, ep, t, e2⟩
  have inW : ∀ a, a ∈ ({ D with used := U } : Ad).W → a = D.log ∨ a = U ∨ a = D.tab := fun a ha => by simpa [Ad.W] using ha
  have old : ∀ b o, h₀.get? b = some o → (hideAll s.heap ({ D with used := U } : Ad).W).get? b = some o := fun b o e => hideAll_get _ (I.fr.keep b o e) fun hm => by
    rcases inW b hm with rfl | rfl | rfl
    · have := (I.led _ _ hlog).2.2; rw [e] at this; cases this
    · have := (I.led _ _ hU).2.2; rw [e] at this; cases this
    · have := (I.led _ _ ht).2.2; rw [e] at this; cases this
  have hid : ∀ a o, N a = some o → NotW o → (hideAll s.heap ({ D with used := U } : Ad).W).get? a = some o := fun a o e hn => hideAll_get _ (I.get e) fun hm => by
    rcases inW a hm with rfl | rfl | rfl
    · rw [hlog] at e; cases e; exact hn.1 _ _ rfl
    · rw [hU] at e; cases e; obtain ⟨x, y, t, q⟩ := hsd; exact hn.2.1 _ _ _ q
    · rw [ht] at e; cases e; exact hn.2.2 _ rfl
  have hidL : ∀ a vs n, (N.del D.log) a = some (listOf vs n) → (hideAll s.heap ({ D with used := U } : Ad).W).get? a = some (listOf vs n) := fun a vs n e => by
    obtain ⟨e, hne⟩ := Led.del_of e
    refine hideAll_get _ (I.get e) fun hm => ?_
    rcases inW a hm with rfl | rfl | rfl
    · exact hne rfl
    · rw [hU] at e; cases e; obtain ⟨x, y, t, q⟩ := hsd; cases q
    · rw [ht] at e; cases congrArg (fun o : Option Obj => o.map Obj.data) e
  have hidT : ∀ a vs, (N.del D.log) a = some (tupleOf vs) → (hideAll s.heap ({ D with used := U } : Ad).W).get? a = some (tupleOf vs) := fun a vs e => by
    obtain ⟨e, hne⟩ := Led.del_of e
    refine hideAll_get _ (I.get e) fun hm => ?_
    rcases inW a hm with rfl | rfl | rfl
    · exact hne rfl
    · rw [hU] at e; cases e; obtain ⟨x, y, t, q⟩ := hsd; cases q
    · rw [ht] at e; cases congrArg (fun o : Option Obj => o.map Obj.data) e
  have fn : ∀ {f c t : Addr} {clos : List (PySem.Str × Addr)} {l : Option Lam}, FnN N f c t clos l → FnAt (hideAll s.heap ({ D with used := U } : Ad).W) qP f c clos l := by
    rintro f c t clos l ⟨a, b, sc, p, pm, ctv, oc, e1, e2, e3, e4, e5⟩
    obtain ⟨us, q1, q2⟩ := hdO_obj e4 (I.get e3)
    exact ⟨a, b, sc, p, pm, ctv, e1, hid _ _ e2 (notW_func rfl), e5 _ (hid _ _ e3 (notW_code q1 q2))⟩
  refine ⟨G.keeps old, BM.keeps old, { cLog := ⟨o2, hid _ _ a2 (notW_cell b2), b2⟩, cPcs := ⟨o4, hid _ _ a4 (notW_cell b4), b4⟩, cArgs := ⟨o1, hid _ _ a1 (notW_cell b1), b1⟩, cNamed := ⟨o3, hid _ _ a3 (notW_cell b3), b3⟩, pcs := ?_, xf := hid _ _ xf (notW_plain rfl), dxf := ⟨es', n', hid _ _ d1 (notW_dict rfl), d2⟩, fp := fn fp, fg := fn fg, fc := fn fc, ff := fn ff, hd := ?_ }, ⟨⟨[], k, I.get hlog, .nil⟩, hS, ⟨ps, I.get ht, htn.ok I⟩⟩⟩
  · refine ⟨_, (g1 _ _ (hid _ _ h1 (notW_dict hd))).mapOf, fun u l hl => ?_⟩
    obtain ⟨a, vs, k, q1, _, q3, q4⟩ := pcs_look g2 hl
    exact ⟨a, vs, k, q1, hidL _ _ _ q3, q4.mono hidT⟩
  · obtain ⟨a, b, sc, p, pm, ctv, oc, e1, e2, e3, e4, e5⟩ := fp
    obtain ⟨us, q1, q2⟩ := hdO_obj e4 (I.get e3)
    exact e4 _ (hid _ _ e3 (notW_code q1 q2))
/-- back from _vformat -/
theorem MW.after (M : MW K w D P dueF tx0 aDue aTx h₀ N) (I : In h₀ L m N z s) {U : Addr} {ou : Obj} (hU : N U = some ou) (hsd : ∃ es ep t, ou.data = .set es ep t) (kg : Gk (hideAll s.heap ({ D with used := U } : Ad).W) s s') {st : St} (V : Vr K w { D with used := U } st s'.heap) (hz : ∀ a o, z.prot a = some o → IsRI o) (hst : st.log.length ≤ 60000) :
    In h₀ L m (fullLed h₀ L z s'.heap) z s' ∧ MW K w D P dueF tx0 aDue aTx h₀ (fullLed h₀ L z s'.heap) := by
  obtain ⟨vl, kl, hlog, _⟩ := M.log
  obtain ⟨ps, ht, htn⟩ := M.tab
  obtain ⟨ps', how⟩ := M.own
  have inW : ∀ a, a ∈ ({ D with used := U } : Ad).W → a = D.log ∨ a = U ∨ a = D.tab := fun a ha => by simpa [Ad.W] using ha
  have hW : ∀ a ∈ ({ D with used := U } : Ad).W, ∃ o, N a = some o := fun a ha => by
    rcases inW a ha with rfl | rfl | rfl
    · exact ⟨_, hlog⟩
    · exact ⟨_, hU⟩
    · exact ⟨_, ht⟩
  have J := I.called hW kg
  have nprot : ∀ {a o}, N a = some o → z.prot a = none := fun {a o} e => by
    cases q : z.prot a with
    | none => rfl
    | some o' => have := (I.prot a o' q).2.2.2; rw [e] at this; cases this
  have up : ∀ {a o o'}, N a = some o → s'.heap.get? a = some o' → fullLed h₀ L z s'.heap a = some o' := fun {a o o'} e e' => full_get e' (I.led _ _ e).2.1 (I.led _ _ e).2.2 (nprot e)
  have keep : ∀ a o, N a = some o → a ∉ ({ D with used := U } : Ad).W → fullLed h₀ L z s'.heap a = some o := fun a o e hn => up e (kg.kp a o hn (I.get e))
  have hid : ∀ a o, N a = some o → NotW o → fullLed h₀ L z s'.heap a = some o := fun a o e hn => keep a o e fun hm => by
    rcases inW a hm with rfl | rfl | rfl
    · rw [hlog] at e; cases e; exact hn.1 _ _ rfl
    · rw [hU] at e; cases e; obtain ⟨x, y, t, q⟩ := hsd; exact hn.2.1 _ _ _ q
    · rw [ht] at e; cases e; exact hn.2.2 _ rfl
  refine ⟨J, M.move (h := s.heap) (fun a o e => I.get e) hid (fun a o e q => ?_) ?_ ?_ ⟨ps', keep _ _ how fun hm => ?_⟩⟩
  · obtain ⟨e, hne⟩ := Led.del_of e
    refine Led.del_ne (keep _ _ e fun hm => ?_) hne
    rcases inW a hm with rfl | rfl | rfl
    · exact hne rfl
    · rw [hU] at e; cases e; obtain ⟨x, y, t, q'⟩ := hsd
      rcases q with ⟨vs, n, rfl⟩ | ⟨vs, rfl⟩
      · cases q'
      · cases q'
    · rw [ht] at e; cases e
      rcases q with ⟨vs, n, q⟩ | ⟨vs, q⟩
      · cases congrArg Obj.data q
      · cases congrArg Obj.data q
  · obtain ⟨vs, k, e1, e2⟩ := V.log
    exact ⟨vs, k, up hlog e1, by rw [e2.length, List.length_map]; exact hst⟩
  · obtain ⟨ps2, e1, e2⟩ := V.tab
    refine ⟨ps2, up ht e1, ?_⟩
    rcases e2 with e2 | ⟨l, c, h1, h2, o, vs, h3, h4, h5, h6⟩
    · exact .inl e2
    · refine .inr ⟨l, c, h1, h2, o, vs, ?_, h4, h5, h6⟩
      cases q : h₀.get? c with
      | some o' =>
        have := J.fr.keep c o' q
        rw [h3] at this; cases this
        exact .inr rfl
      | none =>
        refine .inl (full_get h3 (fun e => ?_) q ?_)
        · obtain ⟨o', es, ep, g1, g2⟩ := J.isNs
          rw [e, g1] at h3; cases h3
          rw [g2] at h5; cases h5
        · cases p : z.prot c with
          | none => rfl
          | some o' =>
            have e1 := (J.prot c o' p).1
            rw [h3] at e1; cases e1
            have e2 := hz c _ p
            exact absurd (h4.symm.trans e2) (ty_ne (by decide))
  · rcases inW _ hm with q | q | q
    · rw [q, hlog] at how; cases congrArg (fun o : Option Obj => o.map Obj.data) how
    · rw [q, hU] at how; cases how; obtain ⟨x, y, t, q'⟩ := hsd; cases q'
    · exact M.ap q.symm
end
-- part C17
/-- what lies there once _vformat is done, whichever way it ended -/
structure Ended (K : Frag) (w : World) (D : Ad) (P : List (PySem.Str × List Pc)) (evs : List Ev) (tx0 : PySem.Str) (aDue aTx : Addr) (h₀ : Heap) (L : Addr) (z : Zx) (U : Addr) (depth : Int) (td : Tok) (fault : Option Nat) (free : Nat) (m : PySem.Str → Option Value) (N : Led) (s : Shared) : Prop where
  I : In h₀ L m N z s
  M : MW K w D P evs tx0 aDue aTx h₀ N
  uo : ∃ ou, N U = some ou
  used : s.heap.SetOf (strKind PySem.Challenge.rw_kp0026_05.prog w) U (keysK ⟨fun _ => false, 0⟩ evs).S (keysK ⟨fun _ => false, 0⟩ evs).n
  log : ∃ vs k, N D.log = some (listOf vs.toArray k) ∧ RowsAre s.heap.get? vs (evs.map evR)
  q : LQ aDue aTx depth td fault free m
  f : m (Str.ofString "formatter") = some (.ref D.xf)
  mu : m (Str.ofString "used") = some (.ref U)
  w : (fault = none ∧ ∃ t1 t2 t3, m (Str.ofString "words") = some (.str (Str.ofString "") t1) ∧ m (Str.ofString "told") = some (.str tx0 t2) ∧ m (Str.ofString "number") = some (.int (free : Int) t3)) ∨ (∃ n t, fault = some n ∧ m (Str.ofString "words") = some (.str (Str.ofString "Max string recursion exceeded") t))
section
variable {K : Frag} {oc : Value} {od : Option Addr} {osl : Array (Option Value)} {name qual : PySem.Str} {params : Arguments} {body : List Stmt} {scope : Scope} {cl : List (PySem.Str × Addr)} {dV kV doc pm cdv ct : Value} {an : Option Addr}
theorem seg_go2 {M : Model} {A : Around} {E : Value → Shared → Prop} {s : Shared} {Q : Flow → Shared → Prop} {L : Addr} {b : List Stmt} (pick : List Stmt → List Stmt) (ho : K.lookup 118 = some ⟨oc, od, .func (fnX name qual params body scope cl dV kV doc pm an cdv ct), osl⟩) (e : pick body = b)
    (h : let ev := envX qual scope L 118 cdv (cellsFrom (L + 1) scope.names []); let Q' := Q; wpAny M (A.deeper ev) (execs b ev) Q' E s) : wpAny M (A.deeper (lawE K L)) (execs (pick (lawB K)) (lawE K L)) Q E s := by
  rw [lawE_of L ho, lawB_of ho, e]; exact h
theorem seg_back2 {M : Model} {A : Around} {E : Value → Shared → Prop} {s : Shared} {Q : Flow → Shared → Prop} {L : Addr} {b : List Stmt} (pick : List Stmt → List Stmt) (ho : K.lookup 118 = some ⟨oc, od, .func (fnX name qual params body scope cl dV kV doc pm an cdv ct), osl⟩) (e : pick body = b)
    (h : wpAny M (A.deeper (lawE K L)) (execs (pick (lawB K)) (lawE K L)) Q E s) : wpAny M (A.deeper (envX qual scope L 118 cdv (cellsFrom (L + 1) scope.names []))) (execs b (envX qual scope L 118 cdv (cellsFrom (L + 1) scope.names []))) Q E s := by
  rw [lawE_of L ho, lawB_of ho, e] at h; exact h
end
section
variable {w : World} {D : Ad} {h₀ : Heap} {N N' : Led} {K : Frag} {L : Addr} {m m' : PySem.Str → Option Value} {z z' : Zx} {s s4 s5 : Shared}
/-- what _vformat wrote is still there later on -/
theorem ended_at {U : Addr} {ou : Obj} {evs : List Ev} {lo : Obj} (I : In h₀ L m N z s) (hU : N U = some ou) (hlog : N D.log = some lo) (I4 : In h₀ L m (fullLed h₀ L z s4.heap) z s4) (V : Vr K w { D with used := U } (advS ⟨[], fun _ => false, 0⟩ evs) s4.heap) (J : In h₀ L m' N' z s5) (hle : Led.Le (fullLed h₀ L z s4.heap) N') :
    (∃ ou, N' U = some ou) ∧ s5.heap.SetOf (strKind PySem.Challenge.rw_kp0026_05.prog w) U (keysK ⟨fun _ => false, 0⟩ evs).S (keysK ⟨fun _ => false, 0⟩ evs).n ∧ ∃ vs k, N' D.log = some (listOf vs.toArray k) ∧ RowsAre s5.heap.get? vs (evs.map evR) := by
  have nprot : ∀ {a o}, N a = some o → z.prot a = none := fun {a o} e => by
    cases q : z.prot a with
    | none => rfl
    | some o' => have := (I.prot a o' q).2.2.2; rw [e] at this; cases this
  have up : ∀ {a o o'}, N a = some o → s4.heap.get? a = some o' → N' a = some o' := fun {a o o'} e e' => hle _ _ (full_get e' (I.led _ _ e).2.1 (I.led _ _ e).2.2 (nprot e))
  have kp := I4.after (J.weaken hle)
  obtain ⟨⟨vs, k, e1, e2⟩, hS, _⟩ := V
  refine ⟨?_, setOf_at hS fun o e => J.get (up hU e), vs, k, up hlog e1, ?_⟩
  · obtain ⟨o, es, ep, t, e, _⟩ := hS
    exact ⟨o, up hU e⟩
  · refine RowsAre.mono (fun a us e => kp a _ e fun q => ?_) e2
    obtain ⟨o', es, ep, g1, g2⟩ := I4.isNs
    rw [q, g1] at e; cases e; cases g2
end
set_option maxRecDepth 100000 in
set_option maxHeartbeats 8000000 in
/-- the first half of a turn: _vformat is called -/
theorem turn_call {w : World} {A : Around} {E : Value → Shared → Prop} {Q : Flow → Shared → Prop} {mg mb : PySem.Str → Option Value} {h₀ : Heap} {m : PySem.Str → Option Value} {N : Led} {z : Zx} {s : Shared} {L : Addr} {D : Ad} {P : List (PySem.Str × List Pc)} {dueF : List Ev} {tx0 : PySem.Str} {aDue aTx : Addr} {depth : Int} {td : Tok} {fault : Option Nat} {free : Nat} {en : PySem.Str} {ts : List Tree}
    (G : Glo (hd.heap_1 w.params) mg mb h₀) (BM : BuiltM mg h₀) (R : Rm A 100 1000) (K0 : Stk A [] h₀) (I : In h₀ L m N z s) (M : MW (hd.heap_1 w.params) w D P dueF tx0 aDue aTx h₀ N) (hz : ∀ a o, z.prot a = some o → IsRI o) (hcL : D.cLog = L + 1 + 1) (hcA : D.cArgs = L + 1) (hcN : D.cNamed = L + 1 + 1 + 1)
    (q : LQ aDue aTx depth td fault free m) (mf : m (Str.ofString "formatter") = some (.ref D.xf)) (hen : en.length ≤ 1) (hP : P.lookup topT = some ((itemsF ts).map (It.pc en))) (hits : ∀ d kids, It.fld d kids ∈ itemsF ts → EncT en P (.node d kids) ∧ OkT (.node d kids) ∧ hgF kids < 66) (hw : wIs (itemsF ts) ≤ 15000)
    (hdue : dueF = (frameR en depth topT (itemsF ts) 0).1) (hdl : dueF.length ≤ 2000) (hok : fault = none → (frameR en depth topT (itemsF ts) 0).2 = some (tx0, free)) (hno : fault ≠ none → (frameR en depth topT (itemsF ts) 0).2 = none)
    (k : ∀ m' N' s' U, Ended (hd.heap_1 w.params) w D P dueF tx0 aDue aTx h₀ L z U depth td fault free m' N' s' → wpAny (model PySem.Challenge.rw_kp0026_05.prog w) (A.deeper (lawE (hd.heap_1 w.params) L)) (execs ((forBody (lawB (hd.heap_1 w.params)) 22).drop 4) (lawE (hd.heap_1 w.params) L)) Q E s') :
    wpAny (model PySem.Challenge.rw_kp0026_05.prog w) (A.deeper (lawE (hd.heap_1 w.params) L)) (execs (forBody (lawB (hd.heap_1 w.params)) 22) (lawE (hd.heap_1 w.params) L)) Q E s := by
  obtain ⟨oA, hA, rA⟩ := M.cArgs
  obtain ⟨oL, hL, rL⟩ := M.cLog
  obtain ⟨oN, hN, rN⟩ := M.cNamed
  rw [hcA] at hA
  rw [hcL] at hL
  rw [hcN] at hN
  obtain ⟨lvs, lk, hlog, hll⟩ := M.log
  obtain ⟨q1, q2, q3, ⟨fv, q4, q4'⟩, ⟨tf, q5⟩⟩ := id q
  refine' seg_go2 (b := _ :: _) (fun b => forBody b 22) ?ho ?e ?_
  case ho => k_is
  case e => with_unfolding_all rfl
  intro ev QQ
  refine x_cons (wpAny_Expr_any ?_ (by with_unfolding_all rfl) (by with_unfolding_all rfl))
  walk_at "gs"
  refine r_clear (by assumption) hlog ?_ (by omega)
  intro s1 k1 I1
  have M1 := M.setLog (k := k1) (vs := []) (fun a o e => I.get e) (Nat.zero_le _)
  have hlog1 : (N.put D.log (listOf [].toArray k1)) D.log = some (listOf [].toArray k1) := Led.put_same
  have neL : ∀ {a o v}, N a = some o → o.data = .cell v → (N.put D.log (listOf [].toArray k1)) a = some o := fun {a o v} e hd => (Led.put_ne (fun y => by rw [y, hlog] at e; cases e; cases hd)).trans e
  have hA1 := neL hA rA
  have hN1 := neL hN rN
  have hL1 := neL hL rL
  generalize N.put D.log (listOf [].toArray k1) = N1 at I1 M1 hlog1 hA1 hN1 hL1
  clear I M hlog hA hN hL neL
  refine then_next ?_
  refine x_assign ?_
  walk_at "gs"
  refine r_builtin G (by assumption) (by k_is) PyProof.Rows.Boot.«set» ?_
  refine PyProof.Rows.callWith_type rfl (PyProof.Rows.evalArgs_nil3 ?_)
  refine r_set0 I1 ?_
  intro U ou s2 hU2 I2 hS2
  have M2 := M1.le (fun a o e => I1.get e) (Led.le_put (o := ou) hU2)
  have hA2 : (N1.put U ou) (L + 1) = some oA := Led.put_of hA1 hU2
  have hN2 : (N1.put U ou) (L + 1 + 1 + 1) = some oN := Led.put_of hN1 hU2
  have hL2 : (N1.put U ou) D.log = some (listOf [].toArray k1) := Led.put_of hlog1 hU2
  have hUU : (N1.put U ou) U = some ou := Led.put_same
  have hUL : D.log ≠ U := fun y => by rw [y, hU2] at hlog1; cases hlog1
  have hUT : U ≠ D.tab := fun y => by obtain ⟨ps, e, _⟩ := M1.tab; rw [← y, hU2] at e; cases e
  have hLT : D.log ≠ D.tab := fun y => by obtain ⟨ps, e, _⟩ := M1.tab; rw [← y, hlog1] at e; cases congrArg (fun o : Option Obj => o.map Obj.data) e
  have hsU : ∃ es ep t, ou.data = .set es ep t := by
    obtain ⟨o, es, ep, t, e, _, e2, _⟩ := hS2
    rw [I2.get hUU] at e; cases e
    exact ⟨es, ep, t, e2⟩
  have hSat : ∀ {m' z' s'}, In h₀ L m' (N1.put U ou) z' s' → s'.heap.SetOf (strKind PySem.Challenge.rw_kp0026_05.prog w) U (fun _ => false) 0 := fun J => setOf_at hS2 fun o e => by rw [I2.get hUU] at e; cases e; exact J.get hUU
  generalize N1.put U ou = N2 at I2 M2 hA2 hN2 hL2 hUU hSat
  clear I1 M1 hA1 hN1 hL1 hU2 hlog1 hS2
  refine letG ?_
  intro GG
  obtain ⟨es, nn, hdx, hg1, hg2, hg3, hg4, hg5⟩ := M2.dxf
  have hxf := M2.xf
  walk_at "gn"
  refine x_cons (cut (fun f s' => f = Flow.next ∧ ∃ m' N', Ended (hd.heap_1 w.params) w D P dueF tx0 aDue aTx h₀ L z U depth td fault free m' N' s') ?main ?rest)
  case rest =>
    rintro _ s9 ⟨rfl, m9, N9, He⟩
    refine then_next ?_
    refine' seg_back2 (K := hd.heap_1 w.params) (fun b => (forBody b 22).drop 4) ?ho2 ?e2 ?_
    case ho2 => k_is
    case e2 => with_unfolding_all rfl
    exact k _ _ _ _ He
  refine wpAny_Try_except (x_cons (Assign_Tuple ?_ (by with_unfolding_all rfl) (by with_unfolding_all rfl)))
  walk_at "gs"
  refine r_method G (by assumption) hxf hdx (by k_is) (by k_is) (by k_is) hg5 ?_
  refine r_cwm G (by k_is) (wpAny_items_cons ?_ (by with_unfolding_all rfl)) (by with_unfolding_all rfl)
  walk_at "gs"
  rename_i t3 s3 I3 _
  have hW3 : ∀ a ∈ ({ D with used := U } : Ad).W, ∃ o, N2 a = some o := fun a ha => by
    have ha : a = D.log ∨ a = U ∨ a = D.tab := by simpa [Ad.W] using ha
    rcases ha with rfl | rfl | rfl
    · exact ⟨_, hL2⟩
    · exact ⟨_, hUU⟩
    · obtain ⟨ps, e, _⟩ := M2.tab; exact ⟨_, e⟩
  refine wpAny_mono (vf_spec hen (D := { D with used := U }) ⟨hUL, hLT, hUT⟩ 66 (M2.wld I3 G BM hUU (hSat I3) hL2) R.deeper.less (K0.pushG I3 hW3) topT t3 depth td 0 238 (itemsF ts) _ _ ⟨rfl, .inr ⟨rfl, rfl, rfl⟩⟩ hP hits (by omega) (by show 0 + _ + 1 ≤ _; omega) (by show 0 * 200 + _ ≤ _; omega)) (fun v s4 y => ?_) (fun e s4 y => ?raise)
  · refine letG ?_
    intro GG
    obtain ⟨⟨txt, f, a, t1, t2, hfr, rfl, ha, V⟩, kg⟩ := y
    have hf0 : fault = none := by
      cases hf : fault with
      | none => rfl
      | some n => have := hno (by rw [hf]; nofun); rw [hfr] at this; cases this
    have hx := hok hf0
    rw [hfr] at hx
    cases hx
    rw [← hdue] at V
    refine letG ?_
    intro GG
    obtain ⟨I4, M4⟩ := M2.after I3 hUU hsU kg V hz (by rw [advS_len]; show 0 + _ ≤ _; omega)
    refine r_unpack2 I4 R.deeper.handled ha ?_
    intro s5 I5 _
    refine then_next (x_nil ?_)
    refine x_nil ?_
    refine letG ?_
    intro GG
    obtain ⟨e1, e2, e3⟩ := ended_at I3 hUU hL2 I4 V I5 (Led.Le.refl _)
    exact ⟨rfl, _, _, { I := I5, M := M4, uo := e1, used := e2, log := e3, q := ⟨by walk_at "look", by walk_at "look", by walk_at "look", ⟨fv, by walk_at "look", q4'⟩, ⟨tf, by walk_at "look"⟩⟩, f := by walk_at "look", mu := by walk_at "look", w := .inl ⟨hf0, _, _, _, by walk_at "look", by walk_at "look", by walk_at "look"⟩ }⟩
  case raise =>
    refine letG ?_
    intro GG
    obtain ⟨hn, H2, ea, ty, hk2, V2, rfl, Fl⟩ := y
    obtain ⟨n, hf⟩ : ∃ n, fault = some n := by
      cases hf : fault with
      | none => have := hok hf; rw [hn] at this; cases this
      | some n => exact ⟨n, rfl⟩
    rw [← hdue] at V2
    obtain ⟨I4, M4⟩ := M2.after (s' := { s3 with heap := H2 }) I3 hUU hsU ⟨hk2, rfl, rfl, rfl⟩ V2 hz (by rw [advS_len]; show 0 + _ ≤ _; omega)
    refine caught G (Around.frames_deeper K0.stack) I4 (Fl.less (fun _ _ e => e) rfl rfl rfl) (by k_is) boot_ValueError PySem.F.isExc_ValueError PySem.F.notTuple_ValueError (by rw [isSubtype_type]; kernel_rfl) ?_
    intro s5 N5 te hle hT I5
    walk_at "gs"
    refine r_strExc PySem.F.excStr_ValueError I5 hT (by have := R.units; show A.units + 3 + 2 < _; omega) ?_
    walk_at "gs"
    refine ⟨_, _, _, by assumption, fun s6 v6 I6 => ?_⟩
    refine letG ?_
    intro GG
    obtain ⟨e1, e2, e3⟩ := ended_at I3 hUU hL2 I4 V2 I6 hle
    have hx : ∀ a o, (fullLed h₀ L z H2) a = some o → H2.get? a = some o := fun a o e => (I4.led _ _ e).1
    refine ⟨rfl, _, _, { I := I6, M := M4.le hx hle, uo := e1, used := e2, log := e3, q := ⟨updo_ne (by decide +kernel) (by walk_at "look"), updo_ne (by decide +kernel) (by walk_at "look"), updo_ne (by decide +kernel) (by walk_at "look"), ⟨fv, updo_ne (by decide +kernel) (by walk_at "look"), q4'⟩, ⟨tf, updo_ne (by decide +kernel) (by walk_at "look")⟩⟩, f := updo_ne (by decide +kernel) (by walk_at "look"), mu := updo_ne (by decide +kernel) (by walk_at "look"), w := .inr ⟨n, _, hf, updo_ne (by decide +kernel) (by walk_at "look")⟩ }⟩
-- part C18
mutual
theorem getlen_T (en : PySem.Str) (hen : en.length ≤ 1) : ∀ (t : Tree) (dep : Int) (u : PySem.Str) (free : Nat), OkT t → free * 200 + wT t ≤ 20000 → ∀ n, Ev.get n ∈ (resT en dep u t free).ev → n.length ≤ 110
  | .node d kids => by
    intro dep u free ho hb n hn
    rw [OkT] at ho
    rw [wT] at hb
    have hx : d.next free ≤ free + 1 := by unfold Nd.next; split <;> omega
    have k := getlen_F en hen kids (dep - 1) (d.shape kids.isEmpty) (d.next free) ho.2 (by omega) n
    rw [resT] at hn
    dsimp only at hn
    simp only [List.mem_append, List.mem_cons, List.not_mem_nil, or_false] at hn
    rcases hn with ((hn | hn) | hn) | hn | hn
    · unfold Nd.pre Nd.midEv at hn
      rcases List.mem_append.mp hn with hn | hn
      · split at hn
        · cases List.mem_singleton.mp hn
        · cases hn
      · simp only [List.mem_cons, List.not_mem_nil, or_false] at hn
        rcases hn with hn | hn | hn
        · cases hn
        · cases hn; exact asked_le ho.1 (by omega)
        · cases hn
    · cases hn
    · exact k hn
    · cases hn
    · cases hn
theorem getlen_F (en : PySem.Str) (hen : en.length ≤ 1) : ∀ (ts : List Tree) (dep : Int) (u : PySem.Str) (free : Nat), OkF ts → free * 200 + wF ts ≤ 20000 → ∀ n, Ev.get n ∈ (resF en dep u ts free).ev → n.length ≤ 110
  | [] => by intro dep u free _ _ n hn; rw [resF] at hn; cases hn
  | t :: ts => by
    intro dep u free ho hb n hn
    rw [OkF] at ho
    rw [wF] at hb
    have a3 := (bd_T en hen t dep u free ho.1 (by omega)).2.2
    have a := getlen_T en hen t dep u free ho.1 (by omega) n
    have b := getlen_F en hen ts dep u (resT en dep u t free).free ho.2 (by omega) n
    rw [resF] at hn
    dsimp only at hn
    rcases List.mem_append.mp hn with hn | hn
    · exact a hn
    · exact b hn
end
theorem frame_getlen {en : PySem.Str} (hen : en.length ≤ 1) (dep : Int) (ts : List Tree) (ho : OkF ts) (hb : wF ts ≤ 20000) : ∀ n, Ev.get n ∈ (frameR en dep topT (itemsF ts) 0).1 → n.length ≤ 110 := by
  intro n hn
  by_cases hd : dep < 0
  · unfold frameR at hn; rw [if_pos hd] at hn; cases hn
  · rw [frame_top en dep ts hd] at hn
    have k := getlen_F en hen ts dep topT 0 ho (by omega) n
    rcases List.mem_cons.mp hn with hn | hn
    · cases hn
    · unfold Rs.seen at hn
      split at hn
      · exact k hn
      · exact k (List.mem_of_mem_take hn)
noncomputable def tagOf : Ev → PySem.Str
  | .parse _ => Str.ofString "parse"
  | .piece _ => Str.ofString "piece"
  | .get _ => Str.ofString "get"
  | .convert _ _ => Str.ofString "convert"
  | .format _ _ => Str.ofString "format"
noncomputable def sndOf : Ev → PySem.Str
  | .parse t => t
  | .piece t => t
  | .get n => n
  | .convert v _ => v
  | .format v _ => v
theorem row_two {us : List Value} {ev : Ev} (h : All2 OptIs us (evR ev)) : ∃ t0 t1 r, us = .str (tagOf ev) t0 :: .str (sndOf ev) t1 :: r := by
  have k : ∀ {x y : PySem.Str} {fl : Row}, All2 OptIs us (some x :: some y :: fl) → ∃ t0 t1 r, us = .str x t0 :: .str y t1 :: r := by
    intro x y fl h
    cases h with
    | cons a h => cases h with
      | cons b h =>
        obtain ⟨t0, rfl⟩ := a.of_some
        obtain ⟨t1, rfl⟩ := b.of_some
        exact ⟨t0, t1, _, rfl⟩
  cases ev <;> exact k h
noncomputable def rowV (g : Led) : Value → Option (PySem.Str × PySem.Str)
  | .ref a => match g a with
    | some o => match o.data with
      | .seq us _ => match (us[0]? : Option Value), (us[1]? : Option Value) with
        | some (.str x _), some (.str y _) => some (x, y)
        | _, _ => none
      | _ => none
    | none => none
  | _ => none
theorem rowV_of {g : Led} {v : Value} {ev : Ev} (h : RowAt g v (evR ev)) : rowV g v = some (tagOf ev, sndOf ev) := by
  obtain ⟨a, us, rfl, hg, hu⟩ := h
  obtain ⟨t0, t1, r, rfl⟩ := row_two hu
  unfold rowV
  dsimp only
  rw [hg]
  simp
noncomputable def getP (g : Led) (v : Value) : Bool := decide ((rowV g v).map (·.1) = some (Str.ofString "get"))
noncomputable def getF (g : Led) (v y : Value) : Prop := ∃ n t', (rowV g v).map (·.2) = some n ∧ y = .str (Str.ofString "k" ++ n) t'
noncomputable def getKs : List Ev → List PySem.Str
  | [] => []
  | .get n :: r => (Str.ofString "k" ++ n) :: getKs r
  | .parse _ :: r => getKs r
  | .piece _ :: r => getKs r
  | .convert _ _ :: r => getKs r
  | .format _ _ :: r => getKs r
theorem getKs_len : ∀ l, (getKs l).length = gN l
  | [] => rfl
  | .get n :: r => by rw [getKs, gN, List.length_cons, getKs_len r]
  | .parse _ :: r => by rw [getKs, gN, getKs_len r]
  | .piece _ :: r => by rw [getKs, gN, getKs_len r]
  | .convert _ _ :: r => by rw [getKs, gN, getKs_len r]
  | .format _ _ :: r => by rw [getKs, gN, getKs_len r]
theorem keysK_adds : ∀ (l : List Ev) (a : Ks), keysK a l = (getKs l).foldl addK a
  | [], _ => rfl
  | .get n :: r, a => by rw [keysK, getKs, List.foldl_cons]; exact keysK_adds r _
  | .parse _ :: r, a => by rw [keysK, getKs]; exact keysK_adds r a; all_goals nofun
  | .piece _ :: r, a => by rw [keysK, getKs]; exact keysK_adds r a; all_goals nofun
  | .convert _ _ :: r, a => by rw [keysK, getKs]; exact keysK_adds r a; all_goals nofun
  | .format _ _ :: r, a => by rw [keysK, getKs]; exact keysK_adds r a; all_goals nofun
theorem tag_get (ev : Ev) : (tagOf ev = Str.ofString "get") ↔ ∃ n, ev = .get n := by
  cases ev with
  | get n => exact ⟨fun _ => ⟨n, rfl⟩, fun _ => rfl⟩
  | parse t => exact ⟨fun h => absurd (show Str.ofString "parse" = Str.ofString "get" from h) (by decide +kernel), fun ⟨_, h⟩ => nomatch h⟩
  | piece t => exact ⟨fun h => absurd (show Str.ofString "piece" = Str.ofString "get" from h) (by decide +kernel), fun ⟨_, h⟩ => nomatch h⟩
  | convert t m => exact ⟨fun h => absurd (show Str.ofString "convert" = Str.ofString "get" from h) (by decide +kernel), fun ⟨_, h⟩ => nomatch h⟩
  | format t m => exact ⟨fun h => absurd (show Str.ofString "format" = Str.ofString "get" from h) (by decide +kernel), fun ⟨_, h⟩ => nomatch h⟩
theorem tag_ne {ev : Ev} (h : ∀ n, ev ≠ .get n) : ¬ decide (tagOf ev = Str.ofString "get") = true := fun q => by
  obtain ⟨n, e⟩ := (tag_get ev).mp (of_decide_eq_true q)
  exact h n e
theorem getP_of {g : Led} {v : Value} {ev : Ev} (h : RowAt g v (evR ev)) : getP g v = decide (tagOf ev = Str.ofString "get") := by
  unfold getP
  rw [rowV_of h]
  simp
theorem comp_txts {g : Led} : ∀ {vs : List Value} {evs : List Ev} {ys : List Value}, RowsAre g vs (evs.map evR) → Paired (getF g) (vs.filter (getP g)) ys → TxtsAre ys (getKs evs)
  | [], [], ys, _, h => by cases h; exact .nil
  | v :: vs, ev :: evs, ys, .cons r t, h => by
    rw [List.filter_cons, getP_of r] at h
    cases ev with
    | get n =>
      rw [if_pos (by rfl)] at h
      cases h with
      | cons a h =>
        obtain ⟨n', t', e, rfl⟩ := a
        rw [rowV_of r] at e
        cases e
        exact .cons _ t' (comp_txts t h)
    | parse x => rw [if_neg (tag_ne (by nofun))] at h; rw [getKs]; exact comp_txts t h
    | piece x => rw [if_neg (tag_ne (by nofun))] at h; rw [getKs]; exact comp_txts t h
    | convert x m => rw [if_neg (tag_ne (by nofun))] at h; rw [getKs]; exact comp_txts t h
    | format x m => rw [if_neg (tag_ne (by nofun))] at h; rw [getKs]; exact comp_txts t h
set_option maxRecDepth 100000 in
theorem comp_quiet {prog : Program} {w : World} {A : Around} {env : Env} {scope : Scope} {g : Led} {vs : List Value} {evs : List Ev} {s₂ : Shared} {J : Addr} {k1 k2 k3 k4 : Nat} {p1 p2 p3 p4 p5 p6 p7 p8 p9 p10 : Pos} (hr : RowsAre g vs (evs.map evR)) (hg : ∀ a us, g a = some (tupleOf us) → a ≠ J ∧ s₂.heap.get? a = some (tupleOf us)) (hl : ∀ n, Ev.get n ∈ evs → n.length ≤ 110)
    (hkind : scope.kind = .function) (hx : scope.names.lookup (Str.ofString "call") = some .local) :
    QuietOn prog w A env scope (Str.ofString "call") [.Compare (.Subscript (.Name (Str.ofString "call") p1) (.Constant (.int 0) k1 p2) p3) [.Eq] [.Constant (.str (Str.ofString "get")) k2 p4] p5]
      (.BinOp (.Constant (.str (Str.ofString "k")) k3 p6) .Add (.Subscript (.Name (Str.ofString "call") p7) (.Constant (.int 1) k4 p8) p9) p10) [J] (fun i v => vs[i]? = some v) (getP g) (getF g) s₂ := by
  refine ⟨fun C i v s₃ m₃ E' hv hns hm hk _ => ?_, fun C i v s₃ m₃ E' hv hp hns hm hk _ => ?_⟩
  · obtain ⟨fl, hfl, hrow⟩ := All2.get hr hv
    obtain ⟨ev, hev, rfl⟩ : ∃ ev, evs[i]? = some ev ∧ evR ev = fl := by
      rw [List.getElem?_map] at hfl
      obtain ⟨ev, h1, h2⟩ := Option.map_eq_some_iff.mp hfl
      exact ⟨ev, h1, h2⟩
    rw [getP_of hrow]
    obtain ⟨a, us, rfl, ha, hu⟩ := hrow
    obtain ⟨t0, t1, r, rfl⟩ := row_two hu
    obtain ⟨haJ, ha2⟩ := hg _ _ ha
    have ha3 := hk a _ (fun hm => haJ (List.mem_singleton.mp hm)) ha2
    simp only [List.forIn_cons, List.forIn_nil]
    refine wpAny_bind ?_
    rw [if_pos trivial]
    refine wpAny_bind (wpAny_isTrue_Compare1 ?_ (by with_unfolding_all rfl))
    refine Subscript_ (wpAny_Name (wpAny_loadName_local hkind hx hns hm ?_) (by decide))
    refine wpAny_Constant_int ?_
    refine r_itemT ha3 (by decide) (by decide) rfl ?_ (by with_unfolding_all rfl)
    refine Calls.Constant_str ?_
    refine PyProof.Rows.eq_str (wpAny_truthy_bool (wpAny_pure (wpAny_pure ⟨?_, ⟨_, _, rfl, fun _ _ e => e⟩⟩)))
    by_cases h : tagOf ev = Str.ofString "get"
    · rw [h]; simp
    · rw [decide_eq_false h]; simpa using h
  · obtain ⟨fl, hfl, hrow⟩ := All2.get hr hv
    obtain ⟨ev, hev, rfl⟩ : ∃ ev, evs[i]? = some ev ∧ evR ev = fl := by
      rw [List.getElem?_map] at hfl
      obtain ⟨ev, h1, h2⟩ := Option.map_eq_some_iff.mp hfl
      exact ⟨ev, h1, h2⟩
    rw [getP_of hrow] at hp
    obtain ⟨n, rfl⟩ := (tag_get ev).mp (of_decide_eq_true hp)
    have hrv := rowV_of hrow
    obtain ⟨a, us, rfl, ha, hu⟩ := hrow
    obtain ⟨t0, t1, r, rfl⟩ := row_two hu
    obtain ⟨haJ, ha2⟩ := hg _ _ ha
    have ha3 := hk a _ (fun hm => haJ (List.mem_singleton.mp hm)) ha2
    have hnl := hl n (List.mem_of_getElem? hev)
    refine wpAny_BinOp (Calls.Constant_str ?_)
    refine Subscript_ (wpAny_Name (wpAny_loadName_local hkind hx hns hm ?_) (by decide))
    refine wpAny_Constant_int ?_
    refine r_itemT ha3 (by decide) (by decide) rfl ?_ (by with_unfolding_all rfl)
    refine PyProof.Rows.add_str (fun t' tk => ⟨⟨n, t', by rw [hrv]; rfl, rfl⟩, ⟨_, _, rfl, fun _ _ e => e⟩⟩) (by show _ + n.length ≤ 16777216; rw [L_k]; omega)
theorem rows_lay : ∀ {evs : List Ev}, (∀ ev ∈ evs, EvOk ev) → PyData.canLay0 (.list ((evs.map evR).map rowD)) = true ∧ (PyData.list ((evs.map evR).map rowD)).depth ≤ 3 := by
  have k : ∀ {evs : List Ev}, (∀ ev ∈ evs, EvOk ev) → PyData.canLayAll0 ((evs.map evR).map rowD) = true ∧ PyData.depthAll ((evs.map evR).map rowD) ≤ 2 := by
    intro evs
    induction evs with
    | nil => intro _; exact ⟨rfl, Nat.zero_le _⟩
    | cons ev r ih =>
      intro h
      obtain ⟨i1, i2⟩ := ih fun e he => h e (.tail _ he)
      rw [List.map_cons, List.map_cons, PyData.canLayAll0, PyData.depthAll, i1, Bool.and_true]
      have row : ∀ fl : Row, (∀ x ∈ fl, OOk x) → PyData.canLay0 (rowD fl) = true ∧ (rowD fl).depth ≤ 1 := by
        intro fl
        unfold rowD
        rw [PyData.canLay0, PyData.depth]
        induction fl with
        | nil => intro _; exact ⟨rfl, Nat.le_refl _⟩
        | cons x r ih =>
          intro hx
          obtain ⟨j1, j2⟩ := ih fun y hy => hx y (.tail _ hy)
          have hx0 := hx x (.head _)
          rw [List.map_cons, PyData.canLayAll0, PyData.depthAll, j1, Bool.and_true]
          cases x with
          | none => exact ⟨rfl, by show max 0 _ + 1 ≤ 1; omega⟩
          | some y => exact ⟨SOk.lay hx0, by show max 0 _ + 1 ≤ 1; omega⟩
      have hev := h ev (.head _)
      obtain ⟨r1, r2⟩ := row (evR ev) (by
        cases ev with
        | parse t => intro x hx; simp only [evR, List.mem_cons, List.not_mem_nil, or_false] at hx; rcases hx with rfl | rfl; exact sok _; exact hev
        | piece t => intro x hx; simp only [evR, List.mem_cons, List.not_mem_nil, or_false] at hx; rcases hx with rfl | rfl; exact sok _; exact hev
        | get t => intro x hx; simp only [evR, List.mem_cons, List.not_mem_nil, or_false] at hx; rcases hx with rfl | rfl; exact sok _; exact hev
        | convert t m => intro x hx; simp only [evR, List.mem_cons, List.not_mem_nil, or_false] at hx; rcases hx with rfl | rfl | rfl; exact sok _; exact hev.1; exact hev.2
        | format t m => intro x hx; simp only [evR, List.mem_cons, List.not_mem_nil, or_false] at hx; rcases hx with rfl | rfl | rfl; exact sok _; exact hev.1; exact hev.2)
      exact ⟨r1, by omega⟩
  intro evs h
  obtain ⟨h1, h2⟩ := k h
  rw [PyData.canLay0, PyData.depth]
  exact ⟨h1, by omega⟩
-- part C19
theorem kt_int_bool (K : Frag) : kitOne K (.type "int") (.type "bool") = some false := by kernel_rfl
set_option maxRecDepth 100000 in
set_option maxHeartbeats 8000000 in
/-- the second half of a turn: what was told is compared -/
theorem turn_check {w : World} {A : Around} {mg mb : PySem.Str → Option Value} {h₀ : Heap} {m : PySem.Str → Option Value} {N : Led} {z : Zx} {s : Shared} {L U : Addr} {D : Ad} {P : List (PySem.Str × List Pc)} {evs : List Ev} {tx0 : PySem.Str} {aDue aTx : Addr} {depth : Int} {td : Tok} {fault : Option Nat} {free : Nat}
    (G : Glo (hd.heap_1 w.params) mg mb h₀) (R : Rm A 100 1000) (H : Ended (hd.heap_1 w.params) w D P evs tx0 aDue aTx h₀ L z U depth td fault free m N s) (hcL : D.cLog = L + 1 + 1) (hel : evs.length ≤ 2000) (hok : ∀ ev ∈ evs, EvOk ev) (hgl : ∀ n, Ev.get n ∈ evs → n.length ≤ 110) (hgn : gN evs ≤ 3000) :
    wpAny (model PySem.Challenge.rw_kp0026_05.prog w) (A.deeper (lawE (hd.heap_1 w.params) L)) (execs ((forBody (lawB (hd.heap_1 w.params)) 22).drop 4) (lawE (hd.heap_1 w.params) L))
      (fun f s' => f = .next ∧ ∃ m' N', MW (hd.heap_1 w.params) w D P evs tx0 aDue aTx h₀ N' ∧ LQ aDue aTx depth td fault free m' ∧ m' (Str.ofString "formatter") = some (.ref D.xf) ∧ In h₀ L m' N' z s') (fun _ _ => False) s := by
  obtain ⟨I, M, ⟨ou, hU⟩, hS, ⟨lvs, lk, hlog, hlr⟩, q, mf, mu, hw⟩ := H
  obtain ⟨oL, hL, rL⟩ := M.cLog
  rw [hcL] at hL
  obtain ⟨q1, q2, q3, ⟨fv, q4, q4'⟩, ⟨tf, q5⟩⟩ := id q
  obtain ⟨od, _, _, gg⟩ := M.g
  obtain ⟨dvs, dk, hdu, hdr⟩ := gg.due
  obtain ⟨tt, tk, htx⟩ := gg.tx
  have hdu' := (Led.del_of hdu).1
  have htx' := (Led.del_of htx).1
  have hlay := rows_lay hok
  have hu0 := R.units
  have r1 := reads_list (I.get hlog) (rows_reads hlr)
  have r2 := reads_list (I.get hdu') (rows_reads (RowsAre.mono (fun a us e => I.get (Led.del_of e).1) hdr))
  refine' seg_go2 (b := _ :: _) (fun b => (forBody b 22).drop 4) ?ho ?e ?_
  case ho => k_is
  case e => with_unfolding_all rfl
  intro ev QQ
  refine x_if ?_
  walk_at "gs"
  refine SeqAt.compareNe_reads r1 r2 hlay.1 hlay.1 (by have h2 := hlay.2; rw [Nat.min_self]; show A.units + 3 + _ < 9900; have h3 : A.units + 1000 < 9900 := hu0; omega) ?_
  rw [SeqAt.eqv_refl _ hlay.1, Bool.not_true]
  walk_at "gs"
  refine r_builtin G (by assumption) (by k_is) PyProof.Rows.Boot.«set» ?_
  walk_at "gs"
  refine r_comp (getP (N.del D.log)) (getF (N.del D.log)) I R.deeper.handled (fun Q' h => r_name I q1 (h _ I)) hdu' (by rw [hdr.length, List.length_map]; omega) (fun s₂ J I2 hJ => comp_quiet (g := N.del D.log) hdr (fun a us e => ⟨hJ a _ (Led.del_of e).1, I2.get (Led.del_of e).1⟩) hgl rfl rfl) ?_
  intro aC s1 kC ys hC hpair I1
  have htxs := comp_txts hdr hpair
  walk_at "gs"
  refine r_setL I1 R.deeper.handled Led.put_same htxs (by rw [getKs_len]; omega) ?_
  intro aS oS s2 hS2 I2 hSS
  have eks : adds (getKs evs) = keysK ⟨fun _ => false, 0⟩ evs := (keysK_adds evs _).symm
  rw [eks] at hSS
  have hU2 := Led.put_of (o' := ou) (o := oS) (Led.put_of (o := listOf ys.toArray kC) hU hC) hS2
  refine ne_sets (setOf_at hS fun o e => by rw [I.get hU] at e; cases e; exact I2.get hU2) hSS (by show A.units + 3 < 9900; have h3 : A.units + 1000 < 9900 := hu0; omega) ?_
  have J2 := (I2.weaken (Led.le_put hS2)).weaken (Led.le_put hC)
  clear I1 I2 hU2 hSS hC hS2 htxs hpair
  walk_at "gn"
  refine then_next ?_
  rcases hw with ⟨hf, t1, t2, t3, w1, w2, w3⟩ | ⟨nf, t1, hf, w1⟩
  · rw [hf] at q4'
    rw [q4'.of_none] at q4
    walk_at "gn"
    refine x_if ?_
    walk_at "gs"
    rw [bne_self_eq_false]
    walk_at "gs"
    refine r_itemL (by assumption) htx' (by decide) (by decide) rfl ?_ (by with_unfolding_all rfl)
    walk_at "gs"
    rw [bne_self_eq_false]
    walk_at "gs"
    refine PyProof.Rows.ne_int ?_
    rw [bne_self_eq_false]
    walk_at "gs"
    refine r_builtin G (by assumption) (by k_is) PyProof.Rows.Boot.«bool» ?_
    walk_at "gs"
    refine r_isi G (by assumption) kitx_int trivial (kt_int_bool _) (by intro h; cases h) ?_
    intro s3 I3
    walk_at "gs"
    exact ⟨rfl, m, N, M, q, mf, I3⟩
  · rw [hf] at q4'
    obtain ⟨t9, ef⟩ := q4'.of_some
    rw [ef] at q4
    walk_at "gn"
    refine x_if ?_
    walk_at "gs"
    rw [bne_self_eq_false]
    walk_at "gs"
    exact ⟨rfl, m, N, M, q, mf, by assumption⟩
-- part C20
set_option maxRecDepth 100000 in
set_option maxHeartbeats 8000000 in
/-- both turns, and the end -/
theorem law_turns {w : World} {A : Around} {mg mb : PySem.Str → Option Value} {h₀ : Heap} {m : PySem.Str → Option Value} {N : Led} {s s0 : Shared} {L : Addr} {D : Ad} {P : List (PySem.Str × List Pc)} {evs : List Ev} {tx0 : PySem.Str} {aDue aTx : Addr} {depth : Int} {td : Tok} {fault : Option Nat} {free : Nat} {en : PySem.Str} {ts : List Tree}
    (G : Glo (hd.heap_1 w.params) mg mb h₀) (BM : BuiltM mg h₀) (R : Rm A 100 1000) (K0 : Stk A [] h₀) (I : In h₀ L m N (Zx.of s0) s) (M : MW (hd.heap_1 w.params) w D P evs tx0 aDue aTx h₀ N) (hcL : D.cLog = L + 1 + 1) (hcA : D.cArgs = L + 1) (hcN : D.cNamed = L + 1 + 1 + 1)
    (q : LQ aDue aTx depth td fault free m) (mf : m (Str.ofString "formatter") = some (.ref D.xf)) (hen : en.length ≤ 1) (hP : P.lookup topT = some ((itemsF ts).map (It.pc en))) (hits : ∀ d kids, It.fld d kids ∈ itemsF ts → EncT en P (.node d kids) ∧ OkT (.node d kids) ∧ hgF kids < 66) (hw : wIs (itemsF ts) ≤ 15000)
    (hdue : evs = (frameR en depth topT (itemsF ts) 0).1) (hdl : evs.length ≤ 2000) (hok : fault = none → (frameR en depth topT (itemsF ts) 0).2 = some (tx0, free)) (hno : fault ≠ none → (frameR en depth topT (itemsF ts) 0).2 = none) (hevs : ∀ ev ∈ evs, EvOk ev) (hgl : ∀ n, Ev.get n ∈ evs → n.length ≤ 110) (hgn : gN evs ≤ 3000) :
    wpAny (model PySem.Challenge.rw_kp0026_05.prog w) (A.deeper (lawE (hd.heap_1 w.params) L)) (execs ((lawB (hd.heap_1 w.params)).drop 22) (lawE (hd.heap_1 w.params) L))
      (fun fl s' => fl = .ret (.bool true) ∧ (∃ ps, s'.heap.get? 115 = some (tabObj ps)) ∧ ∃ m N, In h₀ L m N (Zx.of s0) s') (fun _ _ => False) s := by
  refine' seg_go2 (b := _ :: _) (fun b => b.drop 22) ?ho ?e ?_
  case ho => k_is
  case e => with_unfolding_all rfl
  intro ev QQ
  refine x_for (wpAny_For ?_ (by intro _; with_unfolding_all rfl))
  walk_at "gs"
  refine r_builtin G (by assumption) (by k_is) PyProof.Rows.Boot.«range» ?_
  walk_at "gs"
  refine r_range (n := 2) (by assumption) ?_
  intro r u v s2 I2 hrg
  refine r_iterRK (fun i m' N' => MW (hd.heap_1 w.params) w D P evs tx0 aDue aTx h₀ N' ∧ LQ aDue aTx depth td fault free m' ∧ m' (Str.ofString "formatter") = some (.ref D.xf)) R.deeper.handled I2 hrg (by decide) ⟨M, q, mf⟩ ?turn ?done
  case done =>
    rintro m3 N3 s3 ⟨M3, q3, mf3⟩ I3
    refine then_next ?_
    walk_at "gs"
    obtain ⟨ps, e⟩ := M3.own
    exact ⟨rfl, ⟨ps, I3.get e⟩, _, _, I3⟩
  rintro i ti m3 N3 z3 s3 hi ⟨M3, q3, mf3⟩ hz hz2 I3
  refine r_store I3 (fun s4 I4 => ?_)
  refine' seg_back2 (K := hd.heap_1 w.params) (fun b => forBody b 22) ?ho2 ?e2 ?_
  case ho2 => k_is
  case e2 => with_unfolding_all rfl
  obtain ⟨q1, q2, q4, ⟨fv, q5, q5'⟩, ⟨tf, q6⟩⟩ := q3
  refine turn_call G BM R K0 I4 M3 (fun a o e => (hz2 a o e).elim (fun e => nomatch e) id) hcL hcA hcN ⟨by walk_at "look", by walk_at "look", by walk_at "look", ⟨fv, by walk_at "look", q5'⟩, ⟨tf, by walk_at "look"⟩⟩ (by walk_at "look") hen hP hits hw hdue hdl hok hno ?_
  intro m5 N5 s5 U He
  refine wpAny_mono (turn_check G R He hcL hdl hevs hgl hgn) (fun f s6 y => ?_) (fun _ _ y => y)
  obtain ⟨rfl, m6, N6, M6, q6, mf6, I6⟩ := y
  exact ⟨m6, N6, ⟨M6, q6, mf6⟩, I6⟩
-- part C21
-- MACROS
local macro_rules | `(tactic| walk_at "gI") => `(tactic| repeat ((fail_if_success (with_reducible show wpAny _ _ (eval (PySem.Expr.IfExp _ _ _ _) _) _ _ _)); walk_at "g1"))
-- END MACROS
noncomputable def tab0 : Led := fun a => if a = 115 then some (tabObj #[]) else none
theorem In.addNew {h₀ : Heap} {L : Addr} {m : PySem.Str → Option Value} {N : Led} {z : Zx} {s s' : Shared} (I : In h₀ L m N z s) (J : In h₀ L m N z s') {a : Addr} {o : Obj} (hn : s.heap.get? a = none) (h : s'.heap.get? a = some o) : N a = none ∧ In h₀ L m (N.put a o) z s' := by
  have h1 : a ≠ L := fun e => by
    obtain ⟨o', es, ep, g, _⟩ := I.isNs
    rw [← e, hn] at g; cases g
  have h2 : h₀.get? a = none := by
    cases q : h₀.get? a with
    | none => rfl
    | some o' => have := I.fr.keep a o' q; rw [hn] at this; cases this
  have h3 : z.prot a = none := by
    cases q : z.prot a with
    | none => rfl
    | some o' => have := (I.prot a o' q).1; rw [hn] at this; cases this
  have h4 : N a = none := by
    cases q : N a with
    | none => rfl
    | some o' => have := (I.led a o' q).1; rw [hn] at this; cases this
  exact ⟨h4, J.addLed h h1 h2 h3⟩
theorem r_pickI {prog : Program} {w : World} {A : Around} {E : Value → Shared → Prop} {h₀ : Heap} {m : PySem.Str → Option Value} {N : Led} {z : Zx} {s : Shared} {L : Addr} {value slice : PySem.Expr} {l : Addr} {vs : List Value} {ns : List Int} {n : Nat} {k : Int} {u : Tok} {Q : Value → Shared → Prop} (I : In h₀ L m N z s) (hl : N l = some (listOf vs.toArray n)) (hi : IntsAre vs ns) (h0 : 0 ≤ k) (h1 : k < (ns.length : Int)) (h2 : k < 2 ^ 63)
    (h : ∀ d t, Q (.int d t) s) (hs : subscripted slice false (.ref l) (.int k u) = operate [.ref l, .int k u] (getItem (.ref l) (.int k u)) := by with_unfolding_all rfl) :
    wpAny (model prog w) A (subscriptTail value slice (.ref l) (.int k u)) Q E s := by
  obtain ⟨d, hd⟩ : ∃ d, ns[k.toNat]? = some d := ⟨_, List.getElem?_eq_getElem (by omega)⟩
  obtain ⟨t, ht⟩ := ints_val hi hd
  exact r_itemL I hl h0 h2 ht (h d t) hs
/-- the law behind its loop -/
theorem law_fin {w : World} {A : Around} {mg mb : PySem.Str → Option Value} {h₀ : Heap} {m : PySem.Str → Option Value} {N : Led} {s s0 : Shared} {L : Addr} {X : LA} {row lvs : List Int} {dv : Int} {td te : Tok} {en : PySem.Str} (G : Glo (hd.heap_1 w.params) mg mb h₀) (BM : BuiltM mg h₀) (hC : CodeHd h₀ 117 115) (R : Rm A 100 1000) (K0 : Stk A [] h₀)
    (I : In h₀ L m N (Zx.of s0) s) (n : LN w X (turns en dv 1 (ndsFrom 0 row lvs) (S0 en dv)).P (turns en dv 1 (ndsFrom 0 row lvs) (S0 en dv)).due (turns en dv 1 (ndsFrom 0 row lvs) (S0 en dv)).under (turns en dv 1 (ndsFrom 0 row lvs) (S0 en dv)).shown (turns en dv 1 (ndsFrom 0 row lvs) (S0 en dv)).texts N)
    (M : LM X dv td en te (turns en dv 1 (ndsFrom 0 row lvs) (S0 en dv)).fault (turns en dv 1 (ndsFrom 0 row lvs) (S0 en dv)).free m) (si : SI (turns en dv 1 (ndsFrom 0 row lvs) (S0 en dv)) row.length 1) (hlen : lvs.length = row.length) (hsm : row.length ≤ 65) (hL : Lvs lvs) (hL1 : lvs.head? = some 1) (hen : en.length ≤ 1) (hso : SOk en)
    (hA : X.cA = L + 1) (hcL : X.cL = L + 1 + 1) (hN : X.cN = L + 1 + 1 + 1) (hcP : X.cP = L + 1 + 1 + 1 + 1) :
    wpAny (model PySem.Challenge.rw_kp0026_05.prog w) (A.deeper (lawE (hd.heap_1 w.params) L)) (execs ((lawB (hd.heap_1 w.params)).drop 13) (lawE (hd.heap_1 w.params) L))
      (fun fl s' => fl = .ret (.bool true) ∧ (∃ ps, s'.heap.get? 115 = some (tabObj ps)) ∧ ∃ m N, In h₀ L m N (Zx.of s0) s') (fun _ _ => False) s := by
  have hll := nds_len 0 row lvs hlen.symm
  obtain ⟨hst, hge⟩ := nds_steps 0 row lvs hL
  have hhd : ∀ a r, ndsFrom 0 row lvs = a :: r → a.2 = 1 := by
    intro a r e
    cases lvs with
    | nil => cases hL1
    | cons l ls =>
      cases hL1
      cases row with
      | nil => simp at hlen
      | cons x xs => rw [ndsFrom] at e; cases e; rfl
  have hne : ndsFrom 0 row lvs ≠ [] := by
    intro e
    rw [e] at hll
    cases lvs with
    | nil => cases hL1
    | cons l ls => rw [← hll] at hlen; simp at hlen
  obtain ⟨ts, hts, B⟩ := law_built en dv (ndsFrom 0 row lvs) hne hst hge hhd (nds_nodup 0 row lvs) (fun a h => by have := nds_j 0 row lvs a h; omega)
  have ho : OkF ts := ok_flatF ts 1 (by rw [hts]; exact nds_ok 0 row lvs (by omega))
  have hno : NOkF ts := nok_flatF ts 1 (by rw [hts]; exact nds_nok 0 row lvs)
  have hw : wF ts ≤ 14310 := by have := w_flatF ts 1; rw [hts, hll] at this; omega
  have hg : hgF ts ≤ 65 := by have := hg_flatF ts 1; rw [hts, hll] at this; omega
  generalize turns en dv 1 (ndsFrom 0 row lvs) (S0 en dv) = S at n M si B
  obtain ⟨d1, d2, d3⟩ := due_seen B
  have hcut : cutF S = (frameR en dv topT (itemsF ts) 0).1 := by
    rw [← d1]; unfold cutF; cases S.fault <;> rfl
  have hdl : S.due.length ≤ 2000 := by have := si.due; omega
  have hwi : wIs (itemsF ts) ≤ 15000 := by have := items_w ts; omega
  have hcl : (cutF S).length ≤ 2000 := by
    unfold cutF
    cases S.fault with
    | none => exact hdl
    | some c => show (S.due.take c).length ≤ 2000; rw [List.length_take]; omega
  have hP : S.P.lookup topT = some ((itemsF ts).map (It.pc en)) := by rw [items_pcs]; exact B.top
  have hits : ∀ d kids, It.fld d kids ∈ itemsF ts → EncT en S.P (.node d kids) ∧ OkT (.node d kids) ∧ hgF kids < 66 := fun d kids h => by
    obtain ⟨h1, h2, h3⟩ := items_mem (en := en) (P := S.P) h
    exact ⟨h1 B.enc, h2 ho, by omega⟩
  have hevs : ∀ ev ∈ cutF S, EvOk ev := by rw [hcut]; exact frame_ok hso dv ts hno
  have hgl : ∀ n, Ev.get n ∈ cutF S → n.length ≤ 110 := by rw [hcut]; exact frame_getlen hen dv ts ho (by omega)
  have hgn : gN (cutF S) ≤ 3000 := by
    rw [hcut]
    have := frame_g en dv topT (itemsF ts) 0
    omega
  refine law_make G BM hC R.deeper.handled I (S := S) (tx0 := (resF en dv topT ts 0).out) (by rw [← B.texts]; exact n) M hdl hA hcL hN hcP ?_
  intro D m' N' s' aDue Mk e1 e2 e3 q qf J
  exact law_turns G BM R K0 J Mk.mw e1 e2 e3 q qf hen hP hits hwi hcut hcl d2 d3 hevs hgl hgn
-- part C22
theorem merged_two {aT aE : Addr} : merged [] [(topT, Value.ref aT), (Str.ofString "", Value.ref aE)] = [(topT, aT), (Str.ofString "", aE)].map toV := by
  show stored (stored [] topT (.ref aT)) (Str.ofString "") (.ref aE) = _
  have h1 := stored_new (ks := []) (u := topT) (a := aT) (by simp)
  have h2 := stored_new (ks := [(topT, aT)]) (u := Str.ofString "") (a := aE) (by simpa using Ne.symm top_ne)
  rw [List.map_nil, List.nil_append] at h1
  rw [h1]
  exact h2
theorem nodup_pick {ks l is : List Nat} (h : ks.Nodup) (hi : is.Nodup) (e : is.map (fun i => ks[i]?) = l.map some) : l.Nodup := by
  have h1 : (l.map some).Pairwise (· ≠ ·) := by
    rw [← e, List.pairwise_map]
    refine List.Pairwise.imp_of_mem (fun {a b} ha hb hab q => ?_) hi
    have hm : ks[a]? ∈ l.map some := by rw [← e]; exact List.mem_map_of_mem (f := fun i => ks[i]?) ha
    obtain ⟨x, _, hx⟩ := List.mem_map.mp hm
    have hlt : a < ks.length := (List.getElem?_eq_some_iff.mp hx.symm).1
    exact hab ((List.getElem?_inj hlt h).mp q)
  rw [List.pairwise_map] at h1
  exact h1.imp fun h q => h (by rw [q])
set_option maxRecDepth 100000 in
set_option maxHeartbeats 8000000 in
/-- the lines ahead of the law's loop, from levels on -/
theorem law_pre2 {w : World} {A : Around} {mg mb : PySem.Str → Option Value} {h₀ : Heap} {m : PySem.Str → Option Value} {N : Led} {s s0 : Shared} {L aR a1 : Addr} {oA oL oN oP : Obj} {vs rvs : List Value} {row : List Int} {dv : Int} {td : Tok} (G : Glo (hd.heap_1 w.params) mg mb h₀) (BM : BuiltM mg h₀) (hC : CodeHd h₀ 117 115) (R : Rm A 100 1000) (K0 : Stk A [] h₀)
    (I : In h₀ L m N (Zx.of s0) s) (hs : Hs N [(aR, listOf rvs.toArray 0), (a1, listOf vs.toArray 0), (115, tabObj #[]), (L + 1, oA), (L + 1 + 1, oL), (L + 1 + 1 + 1, oN), (L + 1 + 1 + 1 + 1, oP)]) (rA : oA.data = .cell none) (rL : oL.data = .cell none) (rN : oN.data = .cell none) (rP : oP.data = .cell none)
    (hri : IntsAre rvs row) (hne : 0 < row.length) (hsm : row.length ≤ 65) (hvl : vs.length ≤ 63) (m1 : m (Str.ofString "script") = some (.ref a1)) (m2 : m (Str.ofString "row") = some (.ref aR)) (m3 : m (Str.ofString "depth") = some (.int dv td)) :
    wpAny (model PySem.Challenge.rw_kp0026_05.prog w) (A.deeper (lawE (hd.heap_1 w.params) L)) (execs ((lawB (hd.heap_1 w.params)).drop 3) (lawE (hd.heap_1 w.params) L))
      (fun fl s' => fl = .ret (.bool true) ∧ (∃ ps, s'.heap.get? 115 = some (tabObj ps)) ∧ ∃ m N, In h₀ L m N (Zx.of s0) s') (fun _ _ => False) s := by
  have hm12 : 0 ≤ Int.fmod (vs.length : Int) 12 ∧ Int.fmod (vs.length : Int) 12 < 12 := by rw [Int.fmod_eq_emod_of_nonneg _ (by decide)]; omega
  have hla : N a1 = some (listOf vs.toArray 0) := hs.get (by walk_at "mem")
  have hra : N aR = some (listOf rvs.toArray 0) := hs.get (by walk_at "mem")
  refine' seg_go2 (b := _ :: _) (fun b => b.drop 3) ?ho ?e ?_
  case ho => k_is
  case e => with_unfolding_all rfl
  intro ev QQ
  walk_at "gI"
  refine cutI (by assumption) (fun v => ∃ mo t, v = .int mo t ∧ 1 ≤ mo) ?_ ?_
  · refine letQ ?_
    intro QJ
    walk_at "gs"
    refine r_lenL (by assumption) hla (by omega) ?_
    intro _ _ _ _
    walk_at "gs"
    refine if_dec (fun hlt => ?_) (fun hge => ?_)
    · refine letQ ?_
      intro QJ
      walk_at "gs"
      exact ⟨⟨_, _, rfl, by decide⟩, by assumption⟩
    · refine letQ ?_
      intro QJ
      walk_at "gs"
      refine r_max (by assumption) R.deeper.handled ?_
      intro _ _ _
      exact ⟨⟨_, _, rfl, by split <;> omega⟩, by assumption⟩
  rintro _ s1 ⟨mo, tmo, rfl, hmo⟩ I1
  walk_at "gs"
  refine r_call (by assumption) (levels_spec (G.keeps (Fr.keep (In.fr (by assumption)))) R.deeper.less ⟨_, I1.get hra, rfl, _, rfl⟩ hri (by omega) mo tmo) ?_
  rintro _ s2 ⟨aV, lvs, k, rfl, hV, hVn, hlv⟩ _ I2
  obtain ⟨hVN, J2⟩ := I1.addNew I2 hVn hV
  have hlen : lvs.length = row.length := by rw [hlv.length, levels_len (by intro q; rw [q] at hne; cases hne)]
  have hs2 := hs.new (o := listOf lvs.toArray k) hVN
  generalize N.put aV (listOf lvs.toArray k) = N2 at J2 hs2
  clear I I1 I2 hs hla hra hV hVn hVN
  walk_at "g1"
  refine x_assign ?_
  refine cutI (by assumption) (fun v => ∃ en t, v = .str en t ∧ en.length ≤ 1 ∧ SOk en) ?_ ?_
  · refine letQ ?_
    intro QJ
    walk_at "gs"
    refine r_lenL (by assumption) (hs2.get (by walk_at "mem")) (by omega) ?_
    intro _ _ _ _
    walk_at "gs"
    refine if_beq (fun he => ?_) (fun ho => ?_)
    · refine letQ ?_
      intro QJ
      walk_at "gs"
      exact ⟨⟨_, _, rfl, by decide +kernel, sok _⟩, by assumption⟩
    · refine letQ ?_
      intro QJ
      walk_at "gs"
      exact ⟨⟨_, _, rfl, by decide +kernel, sok _⟩, by assumption⟩
  rintro _ s3 ⟨en, te, rfl, hen, hso⟩ I3
  walk_at "g1"
  refine x_assign ?_
  rename_i s33 I33 _
  with_reducible refine r_dict I33 ?_ ?dh ?dl ?d0 ?dn
  case dh => rfl
  case dl => rfl
  case d0 => intro q; cases q
  case dn => exact Nat.le_of_ble_eq_true rfl
  intro aP s4 hP4 I4
  refine pairTrees_cons_walk ?_
  walk_at "gs"
  refine pairTrees_cons_walk ?_
  walk_at "gs"
  refine pairTrees_nil_walk ?_
  rename_i tT s5 I5 aT s6 hT kT I6 tE s7 I7 aEt s8 hEt k8 I8 aE s9 hE k9 I9
  refine ⟨[(topT, .ref aT), (Str.ofString "", .ref aE)], _, ⟨strKind_is _ _ _ _, rfl, strKind_is _ _ _ _, rfl, trivial⟩, Led.put_of (Led.put_of (Led.put_of Led.put_same hT) hEt) hE, I9, ?_⟩
  intro s10 od I10 hD
  have hDO := dictO_of (I10.get Led.put_same) hD
  rw [merged_two] at hDO
  have hs10 := (((((hs2.new (o := dictNew) hP4).new (o := listOf #[] 0) hT).new (o := tupleOf #[Value.str en te, Value.none, Value.none, Value.none]) hEt).new (o := listOf #[Value.ref aEt] 0) hE).upd (a := aP) (o' := od) (.there (.there (.there .here))))
  refine r_storeC I10 (c := L + 1 + 1 + 1 + 1) (by with_unfolding_all rfl) (hs10.get (by walk_at "mem")) rP ?_
  intro s11 oP' rP' I11
  have hs11 := hs10.upd (a := L + 1 + 1 + 1 + 1) (o' := oP') (.there (.there (.there (.there (.there (.there (.there (.there (.there (.there (.there .here)))))))))))
  obtain ⟨es, ep, hdd⟩ := DictO.data hDO (I10.get Led.put_same)
  generalize (((((((N2.put aP dictNew).put aT _).put aEt _).put aE _).put aP od).put (L + 1 + 1 + 1 + 1) oP')) = N11 at I11 hs11
  clear I3 I4 I5 I6 I7 I8 I9 I10 hs2 hs10 hP4 hT hEt hE kT k8 k9 hD J2
  walk_at "gI"
  rename_i tp s12 I12 tt s13 I13 aDt s14 hDt k14 I14 aD s15 hDn k15 I15 s16 I16 _
  have hs16 := (hs11.new (o := tupleOf #[Value.str (Str.ofString "parse") tp, Value.str (Str.ofString "top") tt]) hDt).new (o := listOf #[Value.ref aDt] 0) hDn
  generalize (N11.put aDt (tupleOf #[Value.str (Str.ofString "parse") tp, Value.str (Str.ofString "top") tt])).put aD (listOf #[Value.ref aDt] 0) = N16 at I16 hs16
  clear I11 I12 I13 I14 I15 hs11 hDt hDn k14 k15 I33
  refine cutI I16 (fun v => FaultIs v (if dv ≥ 0 then none else some 0)) ?_ ?_
  · walk_at "gs"
    refine if_dec (fun hge => ?_) (fun hlt => ?_)
    · rw [if_pos hge]
      walk_at "gs"
      exact ⟨trivial, by assumption⟩
    · rw [if_neg hlt]
      walk_at "gs"
      exact ⟨rfl, by assumption⟩
  rintro fv s17 hfv I17
  walk_at "gs"
  rename_i s18 I18 _ tf s19 I19 s20 I20 _ tu s21 I21 _ aU s22 hU k22 I22 s23 I23 _ aS s24 hS k24 I24 s25 I25 _ tx s26 I26 _ aX s27 hX k27 I27 s28 I28 _
  have hs28 := ((hs16.new (o := listOf #[Value.str (Str.ofString "top") tu] 0) hU).new (o := listOf #[] 0) hS).new (o := listOf #[Value.str (Str.ofString "") tx] 0) hX
  generalize ((N16.put aU (listOf #[Value.str (Str.ofString "top") tu] 0)).put aS (listOf #[] 0)).put aX (listOf #[Value.str (Str.ofString "") tx] 0) = N28 at I28 hs28
  clear I16 I17 I18 I19 I20 I21 I22 I23 I24 I25 I26 I27 hs16 hU hS hX k22 k24 k27
  have n : LN w { row := aR, lev := aV, due := aD, un := aU, sh := aS, tx := aX, P := aP, cA := L + 1, cL := L + 1 + 1, cN := L + 1 + 1 + 1, cP := L + 1 + 1 + 1 + 1, rvs := rvs, lvs := lvs } (S0 en dv).P (S0 en dv).due (S0 en dv).under (S0 en dv).shown (S0 en dv).texts N28 := by
    refine ⟨⟨0, hs28.get (by walk_at "mem")⟩, ⟨k, hs28.get (by walk_at "mem")⟩, ⟨[.ref aDt], 0, hs28.get (by walk_at "mem"), .cons ⟨aDt, [_, _], rfl, hs28.get (by walk_at "mem"), .cons OptIs.s (.cons OptIs.s .nil)⟩ .nil⟩, ⟨[_], 0, hs28.get (by walk_at "mem"), .cons _ _ .nil⟩, ⟨[], 0, hs28.get (by walk_at "mem"), .nil⟩, ⟨[_], 0, hs28.get (by walk_at "mem"), .cons _ _ .nil⟩, hs28.get (by walk_at "mem"), ⟨oA, hs28.get (by walk_at "mem"), rA⟩, ⟨oL, hs28.get (by walk_at "mem"), rL⟩, ⟨oN, hs28.get (by walk_at "mem"), rN⟩, ⟨oP', hs28.get (by walk_at "mem"), rP'⟩, od, [(topT, aT), (Str.ofString "", aE)], hs28.get (by walk_at "mem"), ⟨es, ep, hdd⟩, hDO, ?_, ?_⟩
    · exact .cons ⟨rfl, [], 0, hs28.get (by walk_at "mem"), .nil⟩ (.cons ⟨rfl, [.ref aEt], 0, hs28.get (by walk_at "mem"), .cons ⟨aEt, [_, _, _, _], rfl, hs28.get (by walk_at "mem"), .cons OptIs.s (.cons OptIs.n (.cons OptIs.n (.cons OptIs.n .nil)))⟩ .nil⟩ .nil)
    · exact nodup_pick (is := [10, 9, 3, 2, 1, 0, 7, 5]) (List.pairwise_map.mpr hs28.apart) (by decide) rfl
  refine' seg_back2 (K := hd.heap_1 w.params) (fun b => b.drop 12) ?ho2 ?e2 ?_
  case ho2 => k_is
  case e2 => with_unfolding_all rfl
  have hle : (levelsOf mo row).length = row.length := levels_len (by intro q; rw [q] at hne; cases hne)
  refine law_build (td := td) (te := te) G R.deeper.handled I28 n ⟨by walk_at "look", by walk_at "look", by walk_at "look", by walk_at "look", by walk_at "look", by walk_at "look", by walk_at "look", by walk_at "look", ⟨fv, by walk_at "look", hfv⟩, ⟨tf, by walk_at "look"⟩⟩ hri hlv hle hsm (levels_lvs hmo _) rfl hen rfl ?_
  intro m' N' s' n' M' si' J
  exact law_fin G BM hC R K0 J n' M' si' hle hsm (levels_lvs hmo _) rfl hen hso rfl rfl rfl rfl
-- part C23
set_option maxRecDepth 100000 in
set_option maxHeartbeats 8000000 in
/-- the law's own lines -/
theorem law_pre {w : World} {A : Around} {mg mb : PySem.Str → Option Value} {h₀ : Heap} {m : PySem.Str → Option Value} {N : Led} {s s0 : Shared} {L : Addr} {oA oL oN oP : Obj} {l : Addr} {vs : List Value} {ns : List Int} (G : Glo (hd.heap_1 w.params) mg mb h₀) (BM : BuiltM mg h₀) (hC : CodeHd h₀ 117 115) (R : Rm A 100 1000) (K0 : Stk A [] h₀)
    (I : In h₀ L m N (Zx.of s0) s) (ms : m (Str.ofString "script") = some (.ref l)) (hoA : N (L + 1) = some oA) (rA : oA.data = .cell none) (hoL : N (L + 1 + 1) = some oL) (rL : oL.data = .cell none) (hoN : N (L + 1 + 1 + 1) = some oN) (rN : oN.data = .cell none) (hoP : N (L + 1 + 1 + 1 + 1) = some oP) (rP : oP.data = .cell none) (h115 : N 115 = some (tabObj #[]))
    (d1 : 115 ≠ L + 1) (d2 : 115 ≠ L + 1 + 1) (d3 : 115 ≠ L + 1 + 1 + 1) (d4 : 115 ≠ L + 1 + 1 + 1 + 1) (hl : h₀.IsList l vs.toArray) (hI : IntsAre vs ns) (hn : ns.length ≤ 63) :
    wpAny (model PySem.Challenge.rw_kp0026_05.prog w) (A.deeper (lawE (hd.heap_1 w.params) L)) (execs (lawB (hd.heap_1 w.params)) (lawE (hd.heap_1 w.params) L))
      (fun fl s' => fl = .ret (.bool true) ∧ (∃ ps, s'.heap.get? 115 = some (tabObj ps)) ∧ ∃ m N, In h₀ L m N (Zx.of s0) s') (fun _ _ => False) s := by
  have hvl := hI.length
  have nil : Hs N [] := ⟨(fun p hp => nomatch hp), .nil⟩
  have hs0 : Hs N [(115, tabObj #[]), (L + 1, oA), (L + 1 + 1, oL), (L + 1 + 1 + 1, oN), (L + 1 + 1 + 1 + 1, oP)] := by
    refine Hs.add (Hs.add (Hs.add (Hs.add (Hs.add nil hoP (fun p hp => nomatch hp)) hoN ?_) hoL ?_) hoA ?_) h115 ?_
    · intro p hp
      simp only [List.mem_cons, List.not_mem_nil, or_false] at hp
      rcases hp with rfl
      exact ne1 _
    · intro p hp
      simp only [List.mem_cons, List.not_mem_nil, or_false] at hp
      rcases hp with rfl | rfl
      · exact ne1 _
      · exact ne2 _
    · intro p hp
      simp only [List.mem_cons, List.not_mem_nil, or_false] at hp
      rcases hp with rfl | rfl | rfl
      · exact ne1 _
      · exact ne2 _
      · exact ne3 _
    · intro p hp
      simp only [List.mem_cons, List.not_mem_nil, or_false] at hp
      rcases hp with rfl | rfl | rfl | rfl
      · exact d1
      · exact d2
      · exact d3
      · exact d4
  refine' seg_go2 (b := _ :: _) (fun b => b) ?ho ?e ?_
  case ho => k_is
  case e => rfl
  intro ev QQ
  walk_at "gs"
  refine wpAny_Slice (evalPart_none_step (evalPart_some_step ?_))
  walk_at "gs"
  refine evalPart_none_step ?_
  refine r_slice (by assumption) (hl.at fun o e => Fr.keep (In.fr (by assumption)) _ _ e) .none (.int _ _) ?_ (by with_unfolding_all rfl) (by intro _; with_unfolding_all rfl) (by rw [List.size_toArray, hvl]; show _ ≤ 16777216; omega)
  intro a1 s1 ha1 I1
  have ews : slicePick vs.toArray none (some 63) none = vs.toArray := by
    have h := slicePick_upto' vs.toArray 63
    have e63 : ((63 : Nat) : Int) = 63 := rfl
    rw [e63] at h
    rw [h]
    have : vs.toArray.toList.take 63 = vs := by show vs.take 63 = vs; exact List.take_of_length_le (by omega)
    rw [this]
  rw [ews] at I1
  have hs1 := hs0.new (o := listOf vs.toArray 0) ha1
  generalize N.put a1 (listOf vs.toArray 0) = N1 at I1 hs1
  clear I hs0 nil ha1 hoA hoL hoN hoP h115
  walk_at "gs"
  rename_i u1 v1 w1 u2 v2 w2 a2 s2 ha2 kp2 I2
  refine r_addL I2 (Led.put_of (hs1.get (by walk_at "mem")) ha2) Led.put_same ?_ (by show _ ≤ 16777216; simp only [List.length_cons, List.length_nil]; omega)
  intro aR s3 haR _ I3
  have hs3 := (hs1.le (Led.le_put ha2)).new (o := listOf (vs ++ [Value.int 3 u1, Value.int 319 u2]).toArray 0) haR
  have hri : IntsAre (vs ++ [Value.int 3 u1, Value.int 319 u2]) (ns ++ [3, 319]) := hI.append (.cons _ _ (.cons _ _ .nil))
  have hrl : (vs ++ [Value.int 3 u1, Value.int 319 u2]).length = ns.length + 2 := by rw [List.length_append, hvl]; rfl
  generalize vs ++ [Value.int 3 u1, Value.int 319 u2] = rvs at I3 hs3 hri hrl
  generalize (N1.put a2 _).put aR (listOf rvs.toArray 0) = N3 at I3 hs3
  clear I1 I2 hs1 ha2 haR kp2 w1 w2
  have hm12 : 0 ≤ Int.fmod (vs.length : Int) 12 ∧ Int.fmod (vs.length : Int) 12 < 12 := by rw [Int.fmod_eq_emod_of_nonneg _ (by decide)]; omega
  have hla : N3 a1 = some (listOf vs.toArray 0) := hs3.get (by walk_at "mem")
  walk_at "gs"
  refine r_lenL (by assumption) hla (by omega) ?_
  intro _ _ _ _
  walk_at "gs"
  refine r_lenL (by assumption) (Led.put_of hla (by assumption)) (by omega) ?_
  intro _ _ _ _
  walk_at "gs"
  refine r_pickI (by assumption) Led.put_same (.cons _ _ (.cons _ _ (.cons _ _ (.cons _ _ (.cons _ _ (.cons _ _ (.cons _ _ (.cons _ _ (.cons _ _ (.cons _ _ (.cons _ _ (.cons _ _ .nil)))))))))))) hm12.1 (by simp only [List.length_cons, List.length_nil]; omega) (by omega) ?_ (by with_unfolding_all rfl)
  intro dv tdv
  have I4 := In.weaken (N := N3) (by assumption) (Led.le_put (by assumption))
  iterate 1 walk_at "g1"
  refine' seg_back2 (K := hd.heap_1 w.params) (fun b => b.drop 3) ?ho2 ?e2 ?_
  case ho2 => k_is
  case e2 => with_unfolding_all rfl
  exact law_pre2 G BM hC R K0 (by assumption) hs3 rA rL rN rP hri (by rw [List.length_append]; simp only [List.length_cons, List.length_nil]; omega) (by rw [List.length_append]; simp only [List.length_cons, List.length_nil]; omega) (by omega) (by walk_at "look") (by walk_at "look") (by walk_at "look")
set_option maxRecDepth 100000 in
set_option maxHeartbeats 8000000 in
theorem law_run {w : World} {mg mb : PySem.Str → Option Value} {s : Shared} (G : Glo (hd.heap_1 w.params) mg mb (hideAll s.heap [115])) (BM : BuiltM mg (hideAll s.heap [115])) (hC : CodeHd (hideAll s.heap [115]) 117 115) (hP : s.heap.get? 115 = some (tabObj #[]))
    {l : Addr} {vs : List Value} {ns : List Int} (hl : (hideAll s.heap [115]).IsList l vs.toArray) (hI : IntsAre vs ns) (hn : ns.length ≤ 63) :
    wpAny (model PySem.Challenge.rw_kp0026_05.prog w) callerA (call (.ref 118) [.ref l]) (fun v s' => (v = .bool true ∧ ∃ ps, s'.heap.get? 115 = some (tabObj ps)) ∧ Gk (hideAll s.heap [115]) s s') (fun _ _ => False) s := by
  have R : Rm callerA 100 1000 := ⟨rfl, by decide, by decide⟩
  have K0 : Stk callerA [] (hideAll s.heap [115]) := ⟨rfl, trivial⟩
  generalize callerA = A at R K0 ⊢
  refine' call_fnCG (H := hideAll s.heap [115]) (N₀ := tab0) (binds := [(Str.ofString "script", .ref l)]) (fun v s' => v = .bool true ∧ ∃ ps, s'.heap.get? 115 = some (tabObj ps)) _ (fun b o e => of_hideAll _ e) (Nat.le_of_eq (hideAll_size _ _)) ?hN G (R.less (d' := 0) (u' := 0)).depth ?ho ?hcd ?hb ?hkind ?c1 ?c2 ?c3 ?_
  case hN =>
    intro a o e
    unfold tab0 at e
    split at e
    · rename_i q; subst q; cases e; exact ⟨hP, hideAll_none _ (.head _)⟩
    · cases e
  case ho => k_is
  case hcd => k_is
  case hb => rfl
  case hkind => rfl
  case c1 => rfl
  case c2 => rfl
  case c3 => rfl
  intro s₁ N hle I hcells
  obtain ⟨cA, oA, hoA, rA⟩ := hcells (Str.ofString "args") _ (by with_unfolding_all rfl)
  obtain ⟨cL, oL, hoL, rL⟩ := hcells (Str.ofString "log") _ (by with_unfolding_all rfl)
  obtain ⟨cN, oN, hoN, rN⟩ := hcells (Str.ofString "named") _ (by with_unfolding_all rfl)
  obtain ⟨cP, oP, hoP, rP⟩ := hcells (Str.ofString "pieces") _ (by with_unfolding_all rfl)
  have rA : oA.data = .cell none := rA
  have rL : oL.data = .cell none := rL
  have rN : oN.data = .cell none := rN
  have rP : oP.data = .cell none := rP
  have h115 : N 115 = some (tabObj #[]) := hle _ _ rfl
  refine wpAny_mono (Q := fun fl s' => fl = .ret (.bool true) ∧ (∃ ps, s'.heap.get? 115 = some (tabObj ps)) ∧ ∃ m N, In (hideAll s.heap [115]) s.heap.objs.size m N (Zx.of s) s') (E := fun _ _ => False) ?_ (fun fl s' y => ?_) (fun _ _ y => y.elim)
  · refine' seg_back2 (K := hd.heap_1 w.params) (fun b => b) ?ho2 ?e2 ?_
    case ho2 => k_is
    case e2 => rfl
    exact law_pre G BM hC R K0 I (by with_unfolding_all rfl) hoA rA hoL rL hoN rN hoP rP h115 (fun e => by rw [← e] at cA; cases cA) (fun e => by rw [← e] at cL; cases cL) (fun e => by rw [← e] at cN; cases cN) (fun e => by rw [← e] at cP; cases cP) hl hI hn
  · obtain ⟨rfl, ⟨ps, h⟩, m', N', J⟩ := y
    exact ⟨⟨rfl, ps, h⟩, _, _, _, J⟩
end Mine
set_option maxRecDepth 100000 in
set_option maxHeartbeats 8000000 in
theorem PySem.Challenge.cw_kp0026_05_holds : PySem.Challenge.rw_kp0026_05.Holds := by
  refine Mine.hd ?_
  intro w s₀ s₁ mg mb G Y fa o pm cd doc dV kV ho hd hcd hD hmg hg args vals as hpre hlay hrd hwl hlo
  have KX := km_in_of Y
  refine Ground.open G ?_
  intro T B D TE TW
  clear D TE TW B hD
  have hT : TabsAt [(117, 115)] s₁.heap := List.forall_mem_cons.mpr ⟨tab_of (x := Str.ofString "law") (c := 117) (P := 115) T KX rfl (by kernel_rfl), fun _ h => nomatch h⟩
  have KX2 := ghost_K hT KX (by kernel_rfl)
  have T2 := ghost_top hT T
  have GL : Mine.Glo (Mine.hd.heap_1 w.params) mg mb (ghostOf s₁.heap [(117, 115)]) := Mine.Glo.of KX2 T2
  have BM : Mine.BuiltM mg (ghostOf s₁.heap [(117, 115)]) := by
    obtain ⟨bm, ob, b1, b2, b3, b4, b5, b6⟩ := T2.bmain
    refine ⟨bm, ob, b1, b2, fun q => ?_, b3, b4, b5, b6⟩
    obtain ⟨og, es, ep, g1, g2, _⟩ := GL.g
    rw [← q, b3] at g1; cases g1
    rw [b6] at g2; cases g2
  have hC : CodeHd (ghostOf s₁.heap [(117, 115)]) 117 115 := (ghost_code hT).1
  have hP : s₁.heap.get? 115 = some (tabObj #[]) := (hT _ (.head _)).2
  have h1 := mg_of (n := Str.ofString "law") (v := .ref 118) KX T.g (by k_is)
  have h2 : some (Value.ref fa) = some (Value.ref 118) := hmg.symm.trans h1
  have h3 : fa = 118 := by injection h2 with h2; injection h2
  subst h3
  clear ho hd hcd hmg h1 h2
  wrow_args hpre hlay hrd hwl hlo
  refine wpAny_mono (Mine.law_run GL BM hC hP (ghost_list hT (by assumption)) (by assumption) (by omega)) (fun v s' x => ?_) (fun _ _ x => x.elim)
  obtain ⟨⟨rfl, ps, hps⟩, kg⟩ := x
  have hne : ∀ b, b ≠ 115 → b ∉ [115] := fun b h q => h (List.mem_singleton.mp q)
  have kp : ∀ b o, b ≠ 115 → s₁.heap.get? b = some o → s'.heap.get? b = some o := fun b o hb e => kg.keep b o (hideAll_get _ e (hne b hb))
  refine ⟨.inl ⟨.bool true, .bool true, [], rfl, ?_, .bool true, ?_, ?_⟩, ⟨fun b o e => ?_, fun b o e => ?_⟩, kg.os, .of_eq (kg.gens.trans hg)⟩
  · intro cls; rfl
  · wrow_post
  · exact unshared_nil
  · by_cases hb : b = 115
    · subst hb
      rw [hP] at e; cases e
      exact .inr (.inl ⟨((hT _ (.head _)).1.tab hP).isCodeTable, rfl, #[], ps, rfl, by rw [Array.empty_append]; exact hps⟩)
    · exact .inl (kp b o hb e)
  · by_cases hb : b = 115
    · subst hb; exact ⟨_, hps⟩
    · exact ⟨o, kp b o hb e⟩
