import PyProof.Rows.All
import Wide.All
import OpenK.AllK
import Wide.FinOn
import PyProof.MinMaxWalk
import PySem.Sre
import PySem.Builtin.Sre.Common
import PyProof.Rows.StrClose
import PyProof.Rows.CatFin
import KE.KLcFree
import PySem.Challenge.RW_wa0017_01
set_option Elab.async false

section
open PySem PySem.W PyProof.Rows
set_option Elab.async false
set_option maxRecDepth 100000
section
local macro_rules | `(tactic| o_head $h) => `(tactic| assumption)
set_option maxHeartbeats 40000000 in
theorem Mine.fr : PySem.Challenge.rw_wa0017_01.row.Holds → PySem.Challenge.rw_wa0017_01.row.Holds := by
  intro h
  k_head
end
end

section
open PySem PySem.W PyProof.Rows PySem.Calls
set_option Elab.async false
set_option maxRecDepth 100000
namespace Mine

theorem enterF {prog : Program} {w : World} {A A₀ : Around} {E : Value → Shared → Prop} {s : Shared} {K : Frag} {L : Addr} {h₀ base : Heap} {m mg mb : Str → Option Value} {p : Program} {loose : List Str} {mean : ExcName → Option Value} {Q : Value → Shared → Prop}
    {env : Env} {outer : List Env} {name qual : Str} {params : Arguments} {body : List Stmt} {scope : Scope} {dV kV doc pm cdv ct oc : Value} {an od : Option Addr} {osl : Array (Option Value)} {f : Addr} {vs : List Value} {binds : List (Str × Value)}
    (B : Below A₀ base outer h₀) (F : Fr h₀ L s.heap m) (X₀ : K.In h₀) (T : Top p loose mean mg mb h₀) (hA : A.frames = some (env :: outer)) (hf : env.frame = some L) (hke : env.scope.kind = .function)
    (ho : K.lookup f = some ⟨oc, od, .func (fnOf name qual params body scope dV kV doc pm an cdv ct), osl⟩) (hcd : codeIn K cdv qual = true) (hroom : A.depth < recursionLimit)
    (hbind : BindsTo s (fnOf name qual params body scope dV kV doc pm an cdv ct) ⟨vs, []⟩ binds) (hloc : ∀ y ∈ binds, scope.names.lookup y.1 = some .local)
    (h : ∀ g L' h₁, g = s.heap → Fr h₀ L g m → Fr g L' h₁ (fun y => binds.reverse.lookup y) → News g L' h₁ [] → Below A base (env :: outer) g → K.In g → Top p loose mean mg mb g →
      wpAny (model prog w) (A.deeper (envOf qual scope L' f cdv)) (execs body (envOf qual scope L' f cdv))
        (fun fl s' => LeaveK h₀ L m g (fun r s' => match r with | .ok (.ret v) => Q v s' | .ok _ => False | .error e => E e s') (match fl with | .ret v => v | _ => .none) s')
        (fun e s' => wpAny (model prog w) (A.deeper (envOf qual scope L' f cdv)) (leaving (envOf qual scope L' f cdv) e) (fun _ s'' => E e s'') (fun e' s'' => E e' s'') s')
        { s with heap := h₁, toks := s.toks + binds.length })
    (hco : scope.isCoroutine = false) (hgen : scope.isGenerator = false) (hk : scope.kind = .function)
    (hcell : ∀ x ∈ scope.names, x.2 ≠ .cell) : wpAny (model prog w) A (call (.ref f) vs) Q E s := by
  refine wpAny_call ?_
  have X := X₀.keeps F.keep
  refine codeAny_call_def (fd := fnOf name qual params body scope dV kV doc pm an cdv ct) (body := body) (binds := binds) hroom (X _ _ ho) rfl (T.nolimit.keeps F.keep) (codeRec_of X hcd) rfl hbind hcell hloc (fun h₁ hns hk₁ => ?_) hco hgen hk
  have B₁ := pushX B F hf hke
  have B₂ : Below A base (env :: outer) s.heap := ⟨hA, B₁.stays, B₁.frames⟩
  have F₁ : Fr s.heap s.heap.objs.size h₁ (fun y => binds.reverse.lookup y) := ⟨hns, fun b o e => hk₁ b o e, Nat.le_refl _⟩
  refine wpAny_mono (h s.heap s.heap.objs.size h₁ rfl ⟨F.ns, F.keep, F.above⟩ F₁ News.nil B₂ X (T.keeps F.keep)) (fun fl s' hl => ?_) fun _ _ y => y
  obtain ⟨L', m', news', F', N', k⟩ := hl
  refine k ⟨F.ns.keeps F'.keep, fun b o e => F'.keep b o (F.keep b o e), F.above⟩ fun p hp => ⟨(N' p hp).1, fun q => ?_, ?_⟩
  · obtain ⟨oL, _, _, hL, _⟩ := F.ns
    have := (N' p hp).2.2; rw [q, hL] at this; cases this
  · cases q : h₀.get? p.1 with
    | none => rfl
    | some o => have := (N' p hp).2.2; rw [F.keep _ _ q] at this; cases this
end Mine
end

section
open PySem PySem.W PyProof.Rows PySem.Calls
set_option Elab.async false
set_option maxRecDepth 100000
namespace Mine

/-- where the walk is to stop -/
def MineStop (p : Prop) : Prop := p
theorem mineStop {p : Prop} (h : MineStop p) : p := h
def Ext (h h' : Heap) : Prop := ∀ b o, h.get? b = some o → h'.get? b = some o

/-- d is made between h and h' and is o there -/
def New (h h' : Heap) (d : Addr) (o : Obj) : Prop := h.get? d = none ∧ h'.get? d = some o
abbrev tupOf (vs : List Value) : Obj := { cls := .type "tuple", data := .seq vs.toArray }
theorem ext_of {g h h' : Heap} {L : Addr} {m : Str → Option Value} (e : g = h) (F : Fr g L h' m) : Ext h h' := fun b o q => F.keep b o (e ▸ q)
theorem new_of {g h h' : Heap} {L : Addr} {news : List (Addr × Obj)} {d : Addr} {o : Obj} (e : g = h) (N : News g L h' news) (hm : (d, o) ∈ news) : New h h' d o := ⟨e ▸ (N _ hm).2.2, (N _ hm).1⟩
theorem off_of {h₀ h : Heap} {L d : Addr} {news : List (Addr × Obj)} (N : News h₀ L h news) (e : h.get? d = none) : ∀ p ∈ news, p.1 ≠ d := fun p hp q => by
  have := (N p hp).1
  rw [q, e] at this
  cases this
theorem fr_ext {g h h' : Heap} {L : Addr} {m : Str → Option Value} (F : Fr g L h m) (e : Ext h h') : Fr g L h' m := ⟨F.ns.keeps e, fun b o q => e b o (F.keep b o q), F.above⟩
theorem news_ext {g h h' : Heap} {L : Addr} {news : List (Addr × Obj)} (N : News g L h news) (e : Ext h h') : News g L h' news := fun q hq => ⟨e _ _ (N q hq).1, (N q hq).2⟩
/-- the contract of a def that changes nothing: d frames, u units at most -/
def Cl (w : World) (f : Addr) (d u : Nat) (args : List Value) (s : Shared) (Post : Heap → Value → Prop) : Prop :=
  ∀ (p : Program) (loose : List Str) (mean : ExcName → Option Value) (mg mb : Str → Option Value) (dp un : Nat) (gd : Option (List Code)) (cn : Str) (cs : Scope) (a : Addr) (ccd : Value) (cl : List (Str × Addr)) (outer : List Env) (A₀ : Around) (base h₀ : Heap) (L : Addr) (m : Str → Option Value) (Q E : Value → Shared → Prop),
    Below A₀ base outer h₀ → Fr h₀ L s.heap m → (Mine.fr.heap_1 w.params).In h₀ → Top p loose mean mg mb h₀ → cs.kind = .function → dp + d < recursionLimit → un + u < cLine →
    (∀ r h' tk', Ext s.heap h' → Post h' r → Q r { s with heap := h', toks := tk' }) →
    wpAny (model Challenge.rw_wa0017_01.row.prog w) (ktrTop dp un gd cn cs L a ccd cl outer) (call (.ref f) args) Q E s

theorem use {w : World} {f : Addr} {d u : Nat} {args : List Value} {s : Shared} {Post : Heap → Value → Prop} {p : Program} {loose : List Str} {mean : ExcName → Option Value} {mg mb : Str → Option Value} {dp un : Nat} {gd : Option (List Code)} {cn : Str} {cs : Scope} {a : Addr} {ccd : Value} {cl : List (Str × Addr)} {outer : List Env} {A₀ : Around} {base h₀ : Heap} {L : Addr} {m : Str → Option Value} {news : List (Addr × Obj)} {Q E : Value → Shared → Prop}
    (B : Below A₀ base outer h₀) (F : Fr h₀ L s.heap m) (X : (Mine.fr.heap_1 w.params).In h₀) (N : News h₀ L s.heap news) (T : Top p loose mean mg mb h₀) (hk : cs.kind = .function) (C : Cl w f d u args s Post)
    (hd : dp + d < recursionLimit) (hu : un + u < cLine)
    (ret : ∀ r h' tk', Ext s.heap h' → Post h' r → Fr h₀ L h' m → News h₀ L h' news → Q r { s with heap := h', toks := tk' }) :
    wpAny (model Challenge.rw_wa0017_01.row.prog w) (ktrTop dp un gd cn cs L a ccd cl outer) (call (.ref f) args) Q E s :=
  C _ _ _ _ _ _ _ _ _ _ _ _ _ _ _ _ _ _ _ _ _ B F X T hk hd hu fun r h' tk' e hp =>
    ret r h' tk' e hp ⟨F.ns.keeps e, fun b o q => e b o (F.keep b o q), F.above⟩ fun q hq => ⟨e _ _ (N q hq).1, (N q hq).2⟩
end Mine
end

section
open PySem
namespace Mine
/-- the signs of a piece, as code points; great letters at an even place -/
def sgnL (p : Int) (even : Bool) : List Nat :=
  if p = 0 then [46] else if p = 1 then [48] else if p = 2 then [37, 50, if even then 68 else 100]
  else if p = 3 then [37, if even then 69 else 101, if even then 66 else 98] else if p = 4 then [10] else [1635]
def laidL : Int → List Int → List Nat
  | _, [] => []
  | q, p :: r => sgnL p (q % 2 == 0) ++ laidL (q + 1) r
theorem laidL_append : ∀ (a b : List Int) (q : Int), laidL q (a ++ b) = laidL q a ++ laidL (q + a.length) b
  | [], b, q => by simp [laidL]
  | p :: r, b, q => by
    simp only [List.cons_append, laidL, laidL_append r b (q + 1), List.append_assoc, List.length_cons]
    congr 3
    omega
theorem sgnL_len (p : Int) (e : Bool) : (sgnL p e).length ≤ 3 := by
  unfold sgnL
  (repeat' split) <;> simp
theorem laidL_len : ∀ (a : List Int) (q : Int), (laidL q a).length ≤ 3 * a.length
  | [], q => by simp [laidL]
  | p :: r, q => by
    have h1 := laidL_len r (q + 1)
    have h2 := sgnL_len p (q % 2 == 0)
    simp only [laidL, List.length_append, List.length_cons]
    omega
theorem laid_end {p0 pg x : Str} {q0 q n : Int} {pre : List Int} {e : Bool} (hq : q = q0 + (pre.length : Int)) (hl : pg.length ≤ p0.length + 3 * pre.length) (h : pg.cps.toList = p0.cps.toList ++ laidL q0 pre)
    (hm : (q % 2 == 0) = e) (hx : x.cps.toList = sgnL n e) :
    q + 1 = q0 + ((pre ++ [n]).length : Int) ∧ (pg ++ x).length ≤ p0.length + 3 * (pre ++ [n]).length ∧ (pg ++ x).cps.toList = p0.cps.toList ++ laidL q0 (pre ++ [n]) := by
  have h1 : (pg ++ x).cps.toList = pg.cps.toList ++ x.cps.toList := by show (pg.cps ++ x.cps).toList = _; simp
  have h2 : (pg ++ x).length = pg.length + x.cps.toList.length := by show (pg.cps ++ x.cps).size = _; simp [Str.length]
  have h3 := sgnL_len n e
  refine ⟨by simp; omega, ?_, ?_⟩
  · rw [h2, hx]; simp; omega
  · rw [h1, h, hx, laidL_append]
    simp only [laidL, List.append_nil, List.append_assoc, ← hq, hm]
theorem laid_even {p0 pg x : Str} {q0 q n : Int} {pre : List Int} (hm : q.fmod 2 = 0) (hq : q = q0 + (pre.length : Int)) (hl : pg.length ≤ p0.length + 3 * pre.length) (h : pg.cps.toList = p0.cps.toList ++ laidL q0 pre)
    (hx : x.cps.toList = sgnL n true) :
    q + 1 = q0 + ((pre ++ [n]).length : Int) ∧ (pg ++ x).length ≤ p0.length + 3 * (pre ++ [n]).length ∧ (pg ++ x).cps.toList = p0.cps.toList ++ laidL q0 (pre ++ [n]) :=
  laid_end hq hl h (by rw [Int.fmod_eq_emod_of_nonneg _ (by decide)] at hm; simp [hm]) hx
theorem laid_odd {p0 pg x : Str} {q0 q n : Int} {pre : List Int} (hm : q.fmod 2 ≠ 0) (hq : q = q0 + (pre.length : Int)) (hl : pg.length ≤ p0.length + 3 * pre.length) (h : pg.cps.toList = p0.cps.toList ++ laidL q0 pre)
    (hx : x.cps.toList = sgnL n false) :
    q + 1 = q0 + ((pre ++ [n]).length : Int) ∧ (pg ++ x).length ≤ p0.length + 3 * (pre ++ [n]).length ∧ (pg ++ x).cps.toList = p0.cps.toList ++ laidL q0 (pre ++ [n]) :=
  laid_end hq hl h (by rw [Int.fmod_eq_emod_of_nonneg _ (by decide)] at hm; simpa using hm) hx
theorem six {n : Int} (h : 0 ≤ n ∧ n < 6) : n = 0 ∨ n = 1 ∨ n = 2 ∨ n = 3 ∨ n = 4 ∨ n = 5 := by omega
theorem laid_start {p0 : Str} {q0 : Int} : q0 = q0 + (([] : List Int).length : Int) ∧ p0.length ≤ p0.length + 3 * ([] : List Int).length ∧ p0.cps.toList = p0.cps.toList ++ laidL q0 [] := by simp [laidL]
end Mine
end

section
open PySem
namespace Mine
def tailB : Bool → List Int → Bool
  | _, [] => false
  | seen, p :: r => if p = 1 then tailB true r else (seen && p == 0)
/-- does a page of these pieces end in a dot and one or more 0s, with or without one line feed behind -/
def bnd (ns : List Int) : Bool := match ns.reverse with
  | [] => false
  | p :: r => if p = 4 then tailB false r else tailB false (p :: r)
theorem tailB_ones (n : Nat) (b : Bool) (ys : List Int) : tailB b (List.replicate n 1 ++ ys) = tailB (b || decide (0 < n)) ys := by
  induction n generalizing b with
  | zero => simp
  | succ n ih =>
    rw [List.replicate_succ, List.cons_append]
    simp [tailB, ih]
/-- what the loop finds: all behind k are 1, the one ahead of it is none -/
theorem tailB_at {xs : List Int} {k e : Nat} (he : xs.length = e) (hk : k ≤ e) (h1 : ∀ j, k ≤ j → j < e → xs.getD j 0 = 1) (h2 : 0 < k → xs.getD (k - 1) 0 ≠ 1) :
    tailB false xs.reverse = (decide (0 < k) && (decide (k < e) && (xs.getD (k - 1) 0 == 0))) := by
  have e1 : xs = xs.take k ++ List.replicate (e - k) 1 := by
    apply List.ext_getElem
    · simp; omega
    · intro i hi hj
      by_cases h : i < k
      · rw [List.getElem_append_left (by simp; omega)]; simp
      · rw [List.getElem_append_right (by simp; omega)]
        have := h1 i (by omega) (by omega)
        rw [List.getD_eq_getElem?_getD, List.getElem?_eq_getElem hi] at this
        simpa using this
  have e2 : xs.reverse = List.replicate (e - k) 1 ++ (xs.take k).reverse := by
    conv => lhs; rw [e1]
    rw [List.reverse_append, List.reverse_replicate]
  rw [e2, tailB_ones]
  cases k with
  | zero => simp [tailB]
  | succ k =>
    have hk' : k < xs.length := by omega
    have e3 : (xs.take (k + 1)).reverse = xs[k] :: (xs.take k).reverse := by
      rw [List.take_add_one, List.getElem?_eq_getElem hk']; simp
    have h3 := h2 (by omega)
    simp only [Nat.add_sub_cancel, List.getD_eq_getElem?_getD, List.getElem?_eq_getElem hk', Option.getD_some] at h3 ⊢
    rw [e3]
    simp only [tailB, h3, if_false, Bool.false_or, Nat.zero_lt_succ, decide_true, Bool.true_and]
    rw [show decide (0 < e - (k + 1)) = decide (k + 1 < e) from decide_eq_decide.mpr (by omega)]
theorem getD_take (xs : List Int) (n j : Nat) (h : j < n) : (xs.take n).getD j 0 = xs.getD j 0 := by
  simp [List.getD_eq_getElem?_getD, List.getElem?_take, h]
theorem bnd_at {ns : List Int} {k e : Int} (he : (List.drop (ns.length - 1) ns = [4] ∧ e = (ns.length : Int) - 1) ∨ (¬ List.drop (ns.length - 1) ns = [4] ∧ e = (ns.length : Int))) (h1 : k ≤ e) (h0 : min e 0 ≤ k)
    (h3 : ∀ j : Int, k < j → j ≤ e → (if 0 < j then if (ns.getD (j - 1).toNat 0 == 1) = true then true else false else false) = true)
    (h4 : (if 0 < k then if (ns.getD (k - 1).toNat 0 == 1) = true then true else false else false) = false) :
    bnd ns = (decide (0 < k) && (decide (k < e) && (ns.getD (k - 1).toNat 0 == 0))) := by
  have key : ∀ xs : List Int, (xs.length : Int) = e → (∀ j : Nat, (j : Int) < e → xs.getD j 0 = ns.getD j 0) →
      tailB false xs.reverse = (decide (0 < k) && (decide (k < e) && (ns.getD (k - 1).toNat 0 == 0))) := by
    intro xs hx hj
    have hk0 : 0 ≤ k := by omega
    obtain ⟨n, rfl⟩ : ∃ n : Nat, k = n := ⟨k.toNat, by omega⟩
    obtain ⟨f, rfl⟩ : ∃ f : Nat, e = f := ⟨e.toNat, by omega⟩
    rw [tailB_at (k := n) (e := f) (by omega) (by omega) ?_ ?_]
    · by_cases hn : 0 < n
      · have e1 : ((n : Int) - 1).toNat = n - 1 := by omega
        rw [hj (n - 1) (by omega), e1]
        simp
      · simp [hn]
    · intro j hkj hje
      rw [hj j (by omega)]
      have := h3 (j + 1) (by omega) (by omega)
      rw [if_pos (by omega)] at this
      simpa using this
    · intro hn
      rw [if_pos (by omega)] at h4
      have e1 : ((n : Int) - 1).toNat = n - 1 := by omega
      rw [hj (n - 1) (by omega)]
      rw [e1] at h4
      simpa using h4
  rcases he with ⟨hd, he⟩ | ⟨hd, he⟩
  · have hne : ns ≠ [] := by rintro rfl; simp at hd
    have hlen : 0 < ns.length := List.length_pos_iff.mpr hne
    have e1 : ns = ns.take (ns.length - 1) ++ [4] := by
      conv => lhs; rw [← List.take_append_drop (ns.length - 1) ns, hd]
    have e2 : bnd ns = tailB false (ns.take (ns.length - 1)).reverse := by
      unfold bnd
      have : ns.reverse = 4 :: (ns.take (ns.length - 1)).reverse := by
        conv => lhs; rw [e1]
        simp
      rw [this]; simp
    rw [e2]
    exact key _ (by simp; omega) fun j hj => getD_take _ _ _ (by omega)
  · have e2 : bnd ns = tailB false ns.reverse := by
      unfold bnd
      cases hr : ns.reverse with
      | nil => simp [tailB]
      | cons p r =>
        have hp : p ≠ 4 := by
          rintro rfl
          apply hd
          have : ns = r.reverse ++ [4] := by rw [← List.reverse_reverse ns, hr]; simp
          rw [this]; simp
        simp [hp]
    rw [e2]
    exact key ns (by omega) fun j _ => rfl
theorem bnd_A {ns : List Int} {k e : Int} (he : (List.drop (ns.length - 1) ns = [4] ∧ e = (ns.length : Int) - 1) ∨ (¬ List.drop (ns.length - 1) ns = [4] ∧ e = (ns.length : Int))) (h1 : k ≤ e) (h0 : min e 0 ≤ k)
    (h3 : ∀ j : Int, k < j → j ≤ e → (if 0 < j then if (ns.getD (j - 1).toNat 0 == 1) = true then true else false else false) = true)
    (h4 : (if 0 < k then if (ns.getD (k - 1).toNat 0 == 1) = true then true else false else false) = false) (a : 0 < k) (b : k < e) : (ns.getD (k - 1).toNat 0 == 0) = bnd ns := by
  rw [bnd_at he h1 h0 h3 h4, decide_eq_true a, decide_eq_true b]; rfl
theorem bnd_B {ns : List Int} {k e : Int} (he : (List.drop (ns.length - 1) ns = [4] ∧ e = (ns.length : Int) - 1) ∨ (¬ List.drop (ns.length - 1) ns = [4] ∧ e = (ns.length : Int))) (h1 : k ≤ e) (h0 : min e 0 ≤ k)
    (h3 : ∀ j : Int, k < j → j ≤ e → (if 0 < j then if (ns.getD (j - 1).toNat 0 == 1) = true then true else false else false) = true)
    (h4 : (if 0 < k then if (ns.getD (k - 1).toNat 0 == 1) = true then true else false else false) = false) (a : 0 < k) (b : ¬ k < e) : decide (k < e) = bnd ns := by
  rw [bnd_at he h1 h0 h3 h4, decide_eq_true a, decide_eq_false b]; rfl
theorem bnd_C {ns : List Int} {k e : Int} (he : (List.drop (ns.length - 1) ns = [4] ∧ e = (ns.length : Int) - 1) ∨ (¬ List.drop (ns.length - 1) ns = [4] ∧ e = (ns.length : Int))) (h1 : k ≤ e) (h0 : min e 0 ≤ k)
    (h3 : ∀ j : Int, k < j → j ≤ e → (if 0 < j then if (ns.getD (j - 1).toNat 0 == 1) = true then true else false else false) = true)
    (h4 : (if 0 < k then if (ns.getD (k - 1).toNat 0 == 1) = true then true else false else false) = false) (a : ¬ 0 < k) : decide (0 < k) = bnd ns := by
  rw [bnd_at he h1 h0 h3 h4, decide_eq_false a]; rfl
end Mine
end

section
open PySem PySem.W PyProof.Rows PySem.Calls
set_option Elab.async false
set_option maxRecDepth 100000
namespace Mine
/-- Python's order of two rows of ints -/
def lexLt : List Int → List Int → Bool
  | [], [] => false
  | [], _ :: _ => true
  | _ :: _, [] => false
  | a :: r, b :: q => if a = b then lexLt r q else decide (a < b)
def lexOf (op : CmpOp) (a b : List Int) : Bool := match op with
  | .Gt => lexLt b a
  | _ => lexLt a b
theorem lex_same (op : CmpOp) (a : Int) (r q : List Int) : lexOf op (a :: r) (a :: q) = lexOf op r q := by
  unfold lexOf
  split <;> simp [lexLt]
theorem lex_diff {op : CmpOp} (hop : op = .Lt ∨ op = .Gt) {a b : Int} (h : a ≠ b) (r q : List Int) : lexOf op (a :: r) (b :: q) = (match op with | .Gt => decide (b < a) | _ => decide (a < b)) := by
  unfold lexOf
  rcases hop with rfl | rfl <;> simp [lexLt, h, Ne.symm h]
theorem lex_end {op : CmpOp} (hop : op = .Lt ∨ op = .Gt) (a b : List Int) (h : a = [] ∨ b = []) : lexOf op a b = (match op with | .Gt => decide (b.length < a.length) | _ => decide (a.length < b.length)) := by
  unfold lexOf
  rcases hop with rfl | rfl <;> rcases h with rfl | rfl
  · cases b <;> simp [lexLt]
  · cases a <;> simp [lexLt]
  · cases b <;> simp [lexLt]
  · cases a <;> simp [lexLt]

section
variable {prog : Program} {w : World} {A : Around} {E : Value → Shared → Prop} {s : Shared}
theorem cmp_int {op : CmpOp} (hop : op = .Lt ∨ op = .Gt) {a b : Int} {t u : Tok} {Q : Value → Shared → Prop} (h : Q (.bool (match op with | .Gt => decide (b < a) | _ => decide (a < b))) s) :
    wpAny (model prog w) A (richCompare op (.int a t) (.int b u)) Q E s := by
  rcases hop with rfl | rfl
  · exact lt_int h
  · exact gt_int h

theorem tup_lt_tree {a b : Addr} {vs us : List Value} {ns ms : List Int} {P : Fin → Shared → Prop} (ha : IsTup s.heap a vs.toArray) (hb : IsTup s.heap b us.toArray) (hi : IntsAre vs ns) (hj : IntsAre us ms)
    (h : P (.done (.ret (.bool (lexOf .Lt ns ms)))) s) : wpAny (model prog w) A (Builtin.«tuple.__lt__» ⟨[.ref a, .ref b], []⟩) P E s := by
  have ho : (.Lt : CmpOp) = .Lt ∨ (.Lt : CmpOp) = .Gt := by decide
  show wpAny _ _ (isInstance (.ref b) (.type "tuple") >>= _) _ _ s
  refine wpAny_bind (wpAny_isInstance hb.typeIs AutoSeq1.sub_tuple_tuple ?_)
  simp only [Bool.not_true, Bool.false_eq_true, if_false]
  refine wpAny_bind (tupleItemsOf_ ha ?_)
  refine wpAny_bind (tupleItemsOf_ hb ?_)
  refine wpAny_bind ?_
  refine wpAny_forIn_list _
    (fun rest r s' => r.1 = none ∧ s' = s ∧ ∃ vs' us' ns' ms', rest = List.zip vs' us' ∧ IntsAre vs' ns' ∧ IntsAre us' ms' ∧ lexOf .Lt ns' ms' = lexOf .Lt ns ms ∧ (decide (vs'.length < us'.length) = decide (vs.length < us.length)) ∧ (decide (us'.length < vs'.length) = decide (us.length < vs.length)))
    _ ?_ ?_ _ _ ⟨rfl, rfl, vs, us, ns, ms, rfl, hi, hj, rfl, rfl, rfl⟩
  · rintro ⟨x, y⟩ rest ⟨r1, r2⟩ s' ⟨hr, rfl, vs', us', ns', ms', hz, hi', hj', hlex, hl1, hl2⟩
    cases hi' with
    | nil => simp at hz
    | @cons n t vs'' ns'' hi'' =>
      cases hj' with
      | nil => simp at hz
      | @cons k u us'' ms'' hj'' =>
        simp only [List.zip_cons_cons, List.cons.injEq, Prod.mk.injEq] at hz
        obtain ⟨⟨rfl, rfl⟩, rfl⟩ := hz
        refine wpAny_bind (wpAny_eqBool_int ?_)
        by_cases hk : n = k
        · subst hk
          simp only [beq_self_eq_true, Bool.not_true, Bool.false_eq_true, if_false]
          exact wpAny_pure ⟨rfl, rfl, vs'', us'', ns'', ms'', rfl, hi'', hj'', by rw [← hlex, lex_same], by simpa using hl1, by simpa using hl2⟩
        · have hb : (n == k) = false := by simpa using hk
          simp only [hb, Bool.not_false, if_true]
          refine wpAny_bind (wpAny_rule ?_)
          refine wpAny_bind (cmp_int ho ?_)
          rw [← lex_diff ho hk ns'' ms'', hlex]
          exact wpAny_bind (wpAny_pure (wpAny_pure (wpAny_pure h)))
  · rintro ⟨r1, r2⟩ s' ⟨hr, rfl, vs', us', ns', ms', hz, hi', hj', hlex, hl1, hl2⟩
    simp only at hr
    subst hr
    refine wpAny_pure ?_
    have hend : vs' = [] ∨ us' = [] := by
      cases vs' with
      | nil => exact .inl rfl
      | cons v r => cases us' with
        | nil => exact .inr rfl
        | cons u q => simp at hz
    have h2 : ns' = [] ∨ ms' = [] := by
      rcases hend with rfl | rfl
      · exact .inl (by cases hi'; rfl)
      · exact .inr (by cases hj'; rfl)
    have e := lex_end ho ns' ms' h2
    rw [← hi'.length, ← hj'.length, hlex] at e
    have e3 : (Builtin.Tuple.tupleCompareSizes .Lt vs.length us.length) = .bool (lexOf .Lt ns ms) := by
      rw [e]
      simp only [Builtin.Tuple.tupleCompareSizes]
      first | rw [hl1] | rw [hl2]
      try rfl
    show P (.done (.ret (Builtin.Tuple.tupleCompareSizes .Lt vs.toArray.size us.toArray.size))) s'
    rw [List.size_toArray, List.size_toArray, e3]; exact h
theorem tup_lt {a b : Addr} {vs us : List Value} {ns ms : List Int} {Q : Value → Shared → Prop} (ha : IsTup s.heap a vs.toArray) (hb : IsTup s.heap b us.toArray) (hi : IntsAre vs ns) (hj : IntsAre us ms) (hu : A.units < cLine)
    (h : Q (.bool (lexOf .Lt ns ms)) s) : wpAny (model prog w) A (richCompare .Lt (.ref a) (.ref b)) Q E s :=
  wpAny_richCompare_same_room (op := .Lt) ha.typeIs hb.typeIs PySem.F.slot_tuple_lt
    (wpAny_call_entry PySem.F.slot_tuple_lt ha.typeIs PySem.F.entry_tuple_lt (tup_lt_tree ha hb hi hj ⟨_, rfl, (fun e => nomatch e), h⟩) (PySem.F.args_tuple_lt_2 _ _)) hu
theorem tup_gt_tree {a b : Addr} {vs us : List Value} {ns ms : List Int} {P : Fin → Shared → Prop} (ha : IsTup s.heap a vs.toArray) (hb : IsTup s.heap b us.toArray) (hi : IntsAre vs ns) (hj : IntsAre us ms)
    (h : P (.done (.ret (.bool (lexOf .Gt ns ms)))) s) : wpAny (model prog w) A (Builtin.«tuple.__gt__» ⟨[.ref a, .ref b], []⟩) P E s := by
  have ho : (.Gt : CmpOp) = .Lt ∨ (.Gt : CmpOp) = .Gt := by decide
  show wpAny _ _ (isInstance (.ref b) (.type "tuple") >>= _) _ _ s
  refine wpAny_bind (wpAny_isInstance hb.typeIs AutoSeq1.sub_tuple_tuple ?_)
  simp only [Bool.not_true, Bool.false_eq_true, if_false]
  refine wpAny_bind (tupleItemsOf_ ha ?_)
  refine wpAny_bind (tupleItemsOf_ hb ?_)
  refine wpAny_bind ?_
  refine wpAny_forIn_list _
    (fun rest r s' => r.1 = none ∧ s' = s ∧ ∃ vs' us' ns' ms', rest = List.zip vs' us' ∧ IntsAre vs' ns' ∧ IntsAre us' ms' ∧ lexOf .Gt ns' ms' = lexOf .Gt ns ms ∧ (decide (vs'.length < us'.length) = decide (vs.length < us.length)) ∧ (decide (us'.length < vs'.length) = decide (us.length < vs.length)))
    _ ?_ ?_ _ _ ⟨rfl, rfl, vs, us, ns, ms, rfl, hi, hj, rfl, rfl, rfl⟩
  · rintro ⟨x, y⟩ rest ⟨r1, r2⟩ s' ⟨hr, rfl, vs', us', ns', ms', hz, hi', hj', hlex, hl1, hl2⟩
    cases hi' with
    | nil => simp at hz
    | @cons n t vs'' ns'' hi'' =>
      cases hj' with
      | nil => simp at hz
      | @cons k u us'' ms'' hj'' =>
        simp only [List.zip_cons_cons, List.cons.injEq, Prod.mk.injEq] at hz
        obtain ⟨⟨rfl, rfl⟩, rfl⟩ := hz
        refine wpAny_bind (wpAny_eqBool_int ?_)
        by_cases hk : n = k
        · subst hk
          simp only [beq_self_eq_true, Bool.not_true, Bool.false_eq_true, if_false]
          exact wpAny_pure ⟨rfl, rfl, vs'', us'', ns'', ms'', rfl, hi'', hj'', by rw [← hlex, lex_same], by simpa using hl1, by simpa using hl2⟩
        · have hb : (n == k) = false := by simpa using hk
          simp only [hb, Bool.not_false, if_true]
          refine wpAny_bind (wpAny_rule ?_)
          refine wpAny_bind (cmp_int ho ?_)
          rw [← lex_diff ho hk ns'' ms'', hlex]
          exact wpAny_bind (wpAny_pure (wpAny_pure (wpAny_pure h)))
  · rintro ⟨r1, r2⟩ s' ⟨hr, rfl, vs', us', ns', ms', hz, hi', hj', hlex, hl1, hl2⟩
    simp only at hr
    subst hr
    refine wpAny_pure ?_
    have hend : vs' = [] ∨ us' = [] := by
      cases vs' with
      | nil => exact .inl rfl
      | cons v r => cases us' with
        | nil => exact .inr rfl
        | cons u q => simp at hz
    have h2 : ns' = [] ∨ ms' = [] := by
      rcases hend with rfl | rfl
      · exact .inl (by cases hi'; rfl)
      · exact .inr (by cases hj'; rfl)
    have e := lex_end ho ns' ms' h2
    rw [← hi'.length, ← hj'.length, hlex] at e
    have e3 : (Builtin.Tuple.tupleCompareSizes .Gt vs.length us.length) = .bool (lexOf .Gt ns ms) := by
      rw [e]
      simp only [Builtin.Tuple.tupleCompareSizes]
      first | rw [hl1] | rw [hl2]
      try rfl
    show P (.done (.ret (Builtin.Tuple.tupleCompareSizes .Gt vs.toArray.size us.toArray.size))) s'
    rw [List.size_toArray, List.size_toArray, e3]; exact h
theorem tup_gt {a b : Addr} {vs us : List Value} {ns ms : List Int} {Q : Value → Shared → Prop} (ha : IsTup s.heap a vs.toArray) (hb : IsTup s.heap b us.toArray) (hi : IntsAre vs ns) (hj : IntsAre us ms) (hu : A.units < cLine)
    (h : Q (.bool (lexOf .Gt ns ms)) s) : wpAny (model prog w) A (richCompare .Gt (.ref a) (.ref b)) Q E s :=
  wpAny_richCompare_same_room (op := .Gt) ha.typeIs hb.typeIs PySem.F.slot_tuple_gt
    (wpAny_call_entry PySem.F.slot_tuple_gt ha.typeIs PySem.F.entry_tuple_gt (tup_gt_tree ha hb hi hj ⟨_, rfl, (fun e => nomatch e), h⟩) (PySem.F.args_tuple_gt_2 _ _)) hu
theorem items_ {l : Addr} {zs : List Value} {Q : Array Value → Shared → Prop} (hl : s.heap.IsList l zs.toArray) (hq : Q zs.toArray s) : wpAny (model prog w) A (Builtin.List.listItems (.ref l)) Q E s := by
  obtain ⟨o, ho, _, n, hd⟩ := hl
  unfold Builtin.List.listItems
  exact wpAny_bind (wpAny_seqItems ho hd (wpAny_pure hq))
theorem lst_lt_loop {a b : Addr} {vs us : List Value} {ns ms : List Int} {R : Result → Shared → Prop} (ha : s.heap.IsList a vs.toArray) (hb : s.heap.IsList b us.toArray) (hi : IntsAre vs ns) (hj : IntsAre us ms)
    (h : R (.ok (.ret (.bool (lexOf .Lt ns ms)))) s) (k : Nat) : ∀ i : Nat, ns.length - i = k → lexOf .Lt (ns.drop i) (ms.drop i) = lexOf .Lt ns ms → i ≤ ns.length → i ≤ ms.length →
      codeAny (model prog w) A (.builtin "list.__eq__.loop" ⟨[.ref a, .ref b, rawInt i, rawInt 0], []⟩) R s := by
  have ho : (.Lt : CmpOp) = .Lt ∨ (.Lt : CmpOp) = .Gt := by decide
  have lv := hi.length
  have lu := hj.length
  induction k with
  | zero =>
    intro i hk hlex hin him
    refine codeAny_builtin MeetsSeq3.entry_eq_loop ?_
    rw [Around.under_plainId MeetsSeq3.plain_eq_loop _]
    refine wpAny_bind (items_ ha (wpAny_bind (items_ hb ?_)))
    have hi1 : vs.toArray[((i : Nat) : Int).toNat]? = none := by simp; omega
    rw [hi1]
    refine wpAny_bind (items_ ha (wpAny_bind (items_ hb ?_)))
    have e := lex_end ho (ns.drop i) (ms.drop i) (.inl (List.drop_eq_nil_of_le (by omega)))
    rw [hlex] at e
    rw [e] at h
    simp only [List.length_drop] at h
    refine wpAny_pure ?_
    show R (.ok (.ret (.bool _))) s
    · rw [show decide (ns.length - i < ms.length - i) = decide (vs.toArray.size < us.toArray.size) by (rw [decide_eq_decide, List.size_toArray, List.size_toArray]; omega)] at h
      exact h
  | succ k ih =>
    intro i hk hlex hin him
    refine codeAny_builtin MeetsSeq3.entry_eq_loop ?_
    rw [Around.under_plainId MeetsSeq3.plain_eq_loop _]
    refine wpAny_bind (items_ ha (wpAny_bind (items_ hb ?_)))
    have hlt : i < ns.length := by omega
    obtain ⟨t, hx⟩ := hi.get i ns[i] (by simp [hlt])
    have hi1 : vs.toArray[((i : Nat) : Int).toNat]? = some (.int ns[i] t) := by simpa using hx
    rw [hi1]
    by_cases hm : i < ms.length
    · obtain ⟨u, hy⟩ := hj.get i ms[i] (by simp [hm])
      have hj1 : us.toArray[((i : Nat) : Int).toNat]? = some (.int ms[i] u) := by simpa using hy
      rw [hj1]
      refine wpAny_bind (wpAny_eqBool_int ?_)
      have d1 : ns.drop i = ns[i] :: ns.drop (i + 1) := List.drop_eq_getElem_cons hlt
      have d2 : ms.drop i = ms[i] :: ms.drop (i + 1) := List.drop_eq_getElem_cons hm
      by_cases hq : ns[i] = ms[i]
      · have hb1 : (ns[i] == ms[i]) = true := by simpa using hq
        simp only [hb1, if_true]
        have hc : ((i : Int) + 1) = ((i + 1 : Nat) : Int) := by push_cast; rfl
        refine wpAny_bind (wpAny_pure (wpAny_pure ?_))
        rw [hc]
        refine ⟨plainId_quiet MeetsSeq3.plain_eq_loop _, ih (i + 1) (by omega) ?_ hlt hm⟩
        rw [d1, d2, hq, lex_same] at hlex
        exact hlex
      · have hb1 : (ns[i] == ms[i]) = false := by simpa using hq
        simp only [hb1, Bool.false_eq_true, if_false]
        refine wpAny_bind (items_ ha (wpAny_bind (items_ hb ?_)))
        rw [hi1, hj1]
        refine wpAny_bind (cmp_int ho ?_)
        rw [d1, d2, lex_diff ho hq] at hlex
        rw [← hlex] at h
        exact wpAny_pure h
    · have hj1 : us.toArray[((i : Nat) : Int).toNat]? = none := by simp; omega
      rw [hj1]
      refine wpAny_bind (items_ ha (wpAny_bind (items_ hb ?_)))
      have e := lex_end ho (ns.drop i) (ms.drop i) (.inr (List.drop_eq_nil_of_le (by omega)))
      rw [hlex] at e
      rw [e] at h
      simp only [List.length_drop] at h
      refine wpAny_pure ?_
      show R (.ok (.ret (.bool _))) s
      · rw [show decide (ns.length - i < ms.length - i) = decide (vs.toArray.size < us.toArray.size) by (rw [decide_eq_decide, List.size_toArray, List.size_toArray]; omega)] at h
        exact h
theorem lst_lt {a b : Addr} {vs us : List Value} {ns ms : List Int} {Q : Value → Shared → Prop} (ha : s.heap.IsList a vs.toArray) (hb : s.heap.IsList b us.toArray) (hi : IntsAre vs ns) (hj : IntsAre us ms) (hu : A.units < cLine)
    (h : Q (.bool (lexOf .Lt ns ms)) s) : wpAny (model prog w) A (richCompare .Lt (.ref a) (.ref b)) Q E s := by
  refine wpAny_richCompare_same_room (op := .Lt) ha.typeIs hb.typeIs PySem.F.slot_list_lt ?_ hu
  refine wpAny_call (codeAny_call_builtin PySem.F.slot_list_lt.plain PySem.F.entry_list_lt (PySem.F.slot_list_lt.check _ _ _ _ _ _ _ _ ha.typeIs (PySem.F.args_list_lt_2 _ _) ?_))
  show wpAny _ _ (isInstance (.ref b) (.type "list") >>= _) _ _ s
  refine wpAny_bind (wpAny_isInstance hb.typeIs AutoSeq1.sub_list_list ?_)
  refine wpAny_pure ⟨plainId_quiet MeetsSeq3.plain_eq_loop _, lst_lt_loop ha hb hi hj ?_ _ 0 rfl rfl (Nat.zero_le _) (Nat.zero_le _)⟩
  exact ⟨(fun e => nomatch e), h⟩
theorem lst_gt_loop {a b : Addr} {vs us : List Value} {ns ms : List Int} {R : Result → Shared → Prop} (ha : s.heap.IsList a vs.toArray) (hb : s.heap.IsList b us.toArray) (hi : IntsAre vs ns) (hj : IntsAre us ms)
    (h : R (.ok (.ret (.bool (lexOf .Gt ns ms)))) s) (k : Nat) : ∀ i : Nat, ns.length - i = k → lexOf .Gt (ns.drop i) (ms.drop i) = lexOf .Gt ns ms → i ≤ ns.length → i ≤ ms.length →
      codeAny (model prog w) A (.builtin "list.__eq__.loop" ⟨[.ref a, .ref b, rawInt i, rawInt 4], []⟩) R s := by
  have ho : (.Gt : CmpOp) = .Lt ∨ (.Gt : CmpOp) = .Gt := by decide
  have lv := hi.length
  have lu := hj.length
  induction k with
  | zero =>
    intro i hk hlex hin him
    refine codeAny_builtin MeetsSeq3.entry_eq_loop ?_
    rw [Around.under_plainId MeetsSeq3.plain_eq_loop _]
    refine wpAny_bind (items_ ha (wpAny_bind (items_ hb ?_)))
    have hi1 : vs.toArray[((i : Nat) : Int).toNat]? = none := by simp; omega
    rw [hi1]
    refine wpAny_bind (items_ ha (wpAny_bind (items_ hb ?_)))
    have e := lex_end ho (ns.drop i) (ms.drop i) (.inl (List.drop_eq_nil_of_le (by omega)))
    rw [hlex] at e
    rw [e] at h
    simp only [List.length_drop] at h
    refine wpAny_pure ?_
    show R (.ok (.ret (.bool _))) s
    · rw [show decide (ms.length - i < ns.length - i) = decide (vs.toArray.size > us.toArray.size) by (rw [decide_eq_decide, List.size_toArray, List.size_toArray]; omega)] at h
      exact h
  | succ k ih =>
    intro i hk hlex hin him
    refine codeAny_builtin MeetsSeq3.entry_eq_loop ?_
    rw [Around.under_plainId MeetsSeq3.plain_eq_loop _]
    refine wpAny_bind (items_ ha (wpAny_bind (items_ hb ?_)))
    have hlt : i < ns.length := by omega
    obtain ⟨t, hx⟩ := hi.get i ns[i] (by simp [hlt])
    have hi1 : vs.toArray[((i : Nat) : Int).toNat]? = some (.int ns[i] t) := by simpa using hx
    rw [hi1]
    by_cases hm : i < ms.length
    · obtain ⟨u, hy⟩ := hj.get i ms[i] (by simp [hm])
      have hj1 : us.toArray[((i : Nat) : Int).toNat]? = some (.int ms[i] u) := by simpa using hy
      rw [hj1]
      refine wpAny_bind (wpAny_eqBool_int ?_)
      have d1 : ns.drop i = ns[i] :: ns.drop (i + 1) := List.drop_eq_getElem_cons hlt
      have d2 : ms.drop i = ms[i] :: ms.drop (i + 1) := List.drop_eq_getElem_cons hm
      by_cases hq : ns[i] = ms[i]
      · have hb1 : (ns[i] == ms[i]) = true := by simpa using hq
        simp only [hb1, if_true]
        have hc : ((i : Int) + 1) = ((i + 1 : Nat) : Int) := by push_cast; rfl
        refine wpAny_bind (wpAny_pure (wpAny_pure ?_))
        rw [hc]
        refine ⟨plainId_quiet MeetsSeq3.plain_eq_loop _, ih (i + 1) (by omega) ?_ hlt hm⟩
        rw [d1, d2, hq, lex_same] at hlex
        exact hlex
      · have hb1 : (ns[i] == ms[i]) = false := by simpa using hq
        simp only [hb1, Bool.false_eq_true, if_false]
        refine wpAny_bind (items_ ha (wpAny_bind (items_ hb ?_)))
        rw [hi1, hj1]
        refine wpAny_bind (cmp_int ho ?_)
        rw [d1, d2, lex_diff ho hq] at hlex
        rw [← hlex] at h
        exact wpAny_pure h
    · have hj1 : us.toArray[((i : Nat) : Int).toNat]? = none := by simp; omega
      rw [hj1]
      refine wpAny_bind (items_ ha (wpAny_bind (items_ hb ?_)))
      have e := lex_end ho (ns.drop i) (ms.drop i) (.inr (List.drop_eq_nil_of_le (by omega)))
      rw [hlex] at e
      rw [e] at h
      simp only [List.length_drop] at h
      refine wpAny_pure ?_
      show R (.ok (.ret (.bool _))) s
      · rw [show decide (ms.length - i < ns.length - i) = decide (vs.toArray.size > us.toArray.size) by (rw [decide_eq_decide, List.size_toArray, List.size_toArray]; omega)] at h
        exact h
theorem lst_gt {a b : Addr} {vs us : List Value} {ns ms : List Int} {Q : Value → Shared → Prop} (ha : s.heap.IsList a vs.toArray) (hb : s.heap.IsList b us.toArray) (hi : IntsAre vs ns) (hj : IntsAre us ms) (hu : A.units < cLine)
    (h : Q (.bool (lexOf .Gt ns ms)) s) : wpAny (model prog w) A (richCompare .Gt (.ref a) (.ref b)) Q E s := by
  refine wpAny_richCompare_same_room (op := .Gt) ha.typeIs hb.typeIs PySem.F.slot_list_gt ?_ hu
  refine wpAny_call (codeAny_call_builtin PySem.F.slot_list_gt.plain PySem.F.entry_list_gt (PySem.F.slot_list_gt.check _ _ _ _ _ _ _ _ ha.typeIs (PySem.F.args_list_gt_2 _ _) ?_))
  show wpAny _ _ (isInstance (.ref b) (.type "list") >>= _) _ _ s
  refine wpAny_bind (wpAny_isInstance hb.typeIs AutoSeq1.sub_list_list ?_)
  refine wpAny_pure ⟨plainId_quiet MeetsSeq3.plain_eq_loop _, lst_gt_loop ha hb hi hj ?_ _ 0 rfl rfl (Nat.zero_le _) (Nat.zero_le _)⟩
  exact ⟨(fun e => nomatch e), h⟩
end
end Mine
end

section
open PySem PySem.W PyProof.Rows PySem.Calls
set_option Elab.async false
set_option maxRecDepth 100000
namespace Mine

theorem min_loop {prog : Program} {w : World} {A : Around} {R : Result → Shared → Prop} {I S l : Addr} {items : Array Value} {H : Heap → Prop} {bt : Nat → Nat → Bool} (hh : A.handled = none) (hlI : l ≠ I) (hSI : S ≠ I)
    (hH : ∀ h h' : Heap, H h → (∀ b o, b ≠ I → b ≠ S → h.get? b = some o → h'.get? b = some o) → H h') (hl : ∀ h, H h → h.IsList l items)
    (cmp : ∀ (i j : Nat) (vi vj : Value) (s : Shared) (Q : Value → Shared → Prop) (E : Value → Shared → Prop), H s.heap → items[i]? = some vi → items[j]? = some vj → Q (.bool (bt i j)) s → wpAny (model prog w) A.in1 (richCompare .Lt vi vj) Q E s) :
    ∀ (k j : Nat) (s : Shared) (vb : Value) (c : Nat), items.size - (j + 1) = k → j + 1 ≤ items.size → s.heap.IsListIter I l (j + 1) → H s.heap → items[argBest bt j]? = some vb →
    s.heap.get? S = some { cls := .type "list", dict := none, data := .seq #[vb, vb] c, slots := #[] } →
    (∀ v h' tk, items[argBest bt (items.size - 1)]? = some v → (∀ b o, b ≠ I → b ≠ S → s.heap.get? b = some o → h'.get? b = some o) → R (.ok (.ret v)) { s with heap := h', toks := tk }) →
    codeAny (model prog w) A (.builtin "min.loop" ⟨[.ref I, .none, .ref S], []⟩) R s := by
  have hname : (toString "min" ++ toString ".loop" : String) = "min.loop" := by decide
  have W := Walks.list (prog := prog) (w := w) (A := A.in1) hh I l hlI items
  have ne1 : ∀ {b : Addr}, b ≠ I → b ∉ [I] := fun h hm => h (List.mem_singleton.mp hm)
  intro k
  induction k with
  | zero =>
    intro j s vb c hk hj hit hHs hvb hS hR
    have hin : j + 1 = items.size := by omega
    refine codeAny_builtin PySem.F.entry_min_loop ?_
    rw [Around.under_plainId PySem.F.plain_min_loop _]
    show wpAny _ A.in1 (seqItems? (.ref S) >>= _) _ _ s
    refine wpAny_bind (wpAny_seqItems hS rfl ?_)
    show wpAny _ A.in1 (tryCatch (pyNext (.ref I)) _ >>= _) _ _ s
    refine wpAny_bind (wpAny_tryCatch (W.done s _ _ ⟨hin ▸ hit, hl _ hHs⟩ fun h' tk hk' => ?_))
    have hS' := hk' S _ (ne1 hSI) hS
    show wpAny _ A.in1 (updateSeq S (fun _ => #[]) >>= _) _ _ _
    refine wpAny_bind (wpAny_updateSeq hS' rfl (wpAny_bind (wpAny_letGo (wpAny_pure ?_))))
    exact hR vb _ tk (by rw [← hin]; exact hvb) fun b o hbI hbS e => (Heap.get?_update_other _ _ (Ne.symm hbS)).trans (hk' b o (ne1 hbI) e)
  | succ k ih =>
    intro j s vb c hk hj hit hHs hvb hS hR
    have hlt : j + 1 < items.size := by omega
    refine codeAny_builtin PySem.F.entry_min_loop ?_
    rw [Around.under_plainId PySem.F.plain_min_loop _]
    show wpAny _ A.in1 (seqItems? (.ref S) >>= _) _ _ s
    refine wpAny_bind (wpAny_seqItems hS rfl ?_)
    show wpAny _ A.in1 (tryCatch (pyNext (.ref I)) _ >>= _) _ _ s
    refine wpAny_bind (wpAny_tryCatch (W.item (j + 1) s _ _ hlt ⟨hit, hl _ hHs⟩ fun v h' tk hP hst' hk' => ?_))
    have hS' := hk' S _ (ne1 hSI) hS
    have hH' : H h' := hH _ _ hHs fun b o hbI _ e => hk' b o (ne1 hbI) e
    show wpAny _ A.in1 (tryCatch (holding [v, v] (richCompare .Lt v vb >>= _)) _ >>= _) _ _ _
    refine wpAny_bind (wpAny_tryCatch (wpAny_holding (wpAny_bind (cmp (j + 1) (argBest bt j) v vb _ _ _ hH' hP hvb ?_))))
    refine wpAny_bind (wpAny_holding (wpAny_truthy_bool ?_))
    refine wpAny_bind (wpAny_letGo (wpAny_pure ?_))
    cases hb : bt (j + 1) (argBest bt j) with
    | true =>
      simp only [if_true]
      refine wpAny_bind (wpAny_updateSeq hS' rfl (wpAny_bind (wpAny_letGo ?_)))
      rw [hname]
      have hk2 : ∀ b o, b ≠ S → h'.get? b = some o → (h'.update S (Obj.mapSeq fun _ => #[v, v])).get? b = some o := fun b o hbS e => (Heap.get?_update_other _ _ (Ne.symm hbS)).trans e
      refine wpAny_pure ⟨plainId_quiet PySem.F.plain_min_loop _, ih (j + 1) _ v _ (by omega) hlt ?_ ?_ (by simp only [argBest, hb, if_true]; exact hP) (Heap.get?_update_self _ hS' rfl) fun v' h'' tk'' hP' hk'' => ?_⟩
      · obtain ⟨o, ho, hc⟩ := hst'.1
        exact ⟨o, hk2 _ _ (Ne.symm hSI) ho, hc⟩
      · exact hH _ _ hH' fun b o _ hbS e => hk2 b o hbS e
      · exact hR v' h'' tk'' hP' fun b o hbI hbS e => hk'' b o hbI hbS (hk2 b o hbS (hk' b o (ne1 hbI) e))
    | false =>
      simp only [Bool.false_eq_true, if_false]
      refine wpAny_bind (wpAny_letGo ?_)
      rw [hname]
      refine wpAny_pure ⟨plainId_quiet PySem.F.plain_min_loop _, ih (j + 1) _ vb c (by omega) hlt hst'.1 hH' (by simp only [argBest, hb, Bool.false_eq_true, if_false]; exact hvb) hS' fun v' h'' tk'' hP' hk'' => ?_⟩
      exact hR v' h'' tk'' hP' fun b o hbI hbS e => hk'' b o hbI hbS (hk' b o (ne1 hbI) e)

theorem call_min {prog : Program} {w : World} {A : Around} {E : Value → Shared → Prop} {s : Shared} {l : Addr} {items : Array Value} {H : Heap → Prop} {bt : Nat → Nat → Bool} {Q : Value → Shared → Prop} (hh : A.handled = none) (hHs : H s.heap) (hn : 0 < items.size) (hls : s.heap.IsList l items)
    (hH : ∀ h h' : Heap, H h → (∀ b o, b < s.heap.objs.size → h.get? b = some o → h'.get? b = some o) → H h')
    (cmp : ∀ (i j : Nat) (vi vj : Value) (s : Shared) (Q : Value → Shared → Prop) (E : Value → Shared → Prop), H s.heap → items[i]? = some vi → items[j]? = some vj → Q (.bool (bt i j)) s → wpAny (model prog w) A.in1 (richCompare .Lt vi vj) Q E s)
    (hQ : ∀ v h' tk, items[argBest bt (items.size - 1)]? = some v → (∀ b o, s.heap.get? b = some o → h'.get? b = some o) → Q v { s with heap := h', toks := tk }) :
    wpAny (model prog w) A (call (.builtin "min") [.ref l]) Q E s := by
  have hname : (toString "min" ++ toString ".loop" : String) = "min.loop" := by decide
  obtain ⟨ol, hol, hlr⟩ := id hls
  have hlt : l < s.heap.objs.size := Heap.lt_size hol
  refine call_function_tree PySem.F.kind_min PySem.F.plain_min PySem.F.entry_min (PySem.F.args_min1 _) ?_
  show wpAny _ A.in1 (Builtin.Builtins.bindParams "min" ["key", "default"] 0 ⟨[], []⟩ >>= _) _ _ s
  refine wpAny_bind (wpAny_of_eq (show Builtin.Builtins.bindParams "min" ["key", "default"] 0 ⟨[], []⟩ = pure [none, none] from rfl) ?_)
  refine wpAny_bind (wpAny_pure ?_)
  refine wpAny_bind (wpAny_pyIter_list hls ?_)
  refine wpAny_bind (wpAny_newObj_type ?_)
  dsimp only
  generalize hI : s.heap.objs.size = I
  have hIl : l ≠ I := Nat.ne_of_lt (hI ▸ hlt)
  generalize hg1 : s.heap.push { cls := .type "list_iterator", data := .fields #[.ref l, .int 0 0] } = h1
  have hS1 : h1.objs.size = I + 1 := by rw [← hg1, Heap.size_push, hI]
  have e1 : ∀ b o, s.heap.get? b = some o → h1.get? b = some o := fun b o e => hg1 ▸ Heap.get?_push_of_some _ e
  have i1 : h1.IsListIter I l 0 := ⟨_, by rw [← hg1, ← hI]; exact Heap.get?_push_size _ rfl, rfl, rfl⟩
  rw [hS1]
  have e2 : ∀ b o, h1.get? b = some o → (h1.push { cls := .type "list", data := .seq ([] : List Value).toArray }).get? b = some o := fun b o e => Heap.get?_push_of_some _ e
  have s2 : (h1.push { cls := .type "list", data := .seq ([] : List Value).toArray }).get? (I + 1) = some { cls := .type "list", dict := none, data := .seq #[] 0, slots := #[] } := by
    rw [← hS1]; exact Heap.get?_push_size _ rfl
  generalize h1.push { cls := .type "list", data := .seq ([] : List Value).toArray } = h2 at e2 s2 ⊢
  have W := Walks.list (prog := prog) (w := w) (A := A.in1) hh I l hIl items
  have hH2 : H h2 := hH _ _ hHs fun b o _ e => e2 b o (e1 b o e)
  have i2 : h2.IsListIter I l 0 := let ⟨o, ho, hr⟩ := i1; ⟨o, e2 _ _ ho, hr⟩
  have l2 : h2.IsList l items := hls.at fun o e => e2 _ _ (e1 _ _ e)
  have ne1 : ∀ {b : Addr}, b ≠ I → b ∉ [I] := fun h hm => h (List.mem_singleton.mp hm)
  have hSI : I + 1 ≠ I := by omega
  rw [hname]
  refine wpAny_pure ⟨plainId_quiet PySem.F.plain_min_loop _, ?_⟩
  refine codeAny_builtin PySem.F.entry_min_loop ?_
  rw [Around.under_plainId PySem.F.plain_min_loop _]
  show wpAny _ A.in1 (seqItems? (.ref (I + 1)) >>= _) _ _ _
  refine wpAny_bind (wpAny_seqItems s2 rfl ?_)
  show wpAny _ A.in1 (tryCatch (pyNext (.ref I)) _ >>= _) _ _ _
  refine wpAny_bind (wpAny_tryCatch (W.item 0 _ _ _ hn ⟨i2, l2⟩ fun v h' tk hP hst' hk' => ?_))
  have hS' := hk' (I + 1) _ (ne1 hSI) s2
  show wpAny _ A.in1 (updateSeq (I + 1) (fun _ => #[v, v]) >>= _) _ _ _
  refine wpAny_bind (wpAny_updateSeq hS' rfl ?_)
  rw [hname]
  have hk2 : ∀ b o, b ≠ I + 1 → h'.get? b = some o → (h'.update (I + 1) (Obj.mapSeq fun _ => #[v, v])).get? b = some o := fun b o hbS e => (Heap.get?_update_other _ _ (Ne.symm hbS)).trans e
  let H' : Heap → Prop := fun h => H h ∧ h.IsList l items
  have lS : l ≠ I + 1 := Nat.ne_of_lt (Nat.lt_succ_of_lt (hI ▸ hlt))
  refine wpAny_pure ⟨plainId_quiet PySem.F.plain_min_loop _, min_loop (A := A) (H := H') (bt := bt) hh hIl hSI ?_ (fun h x => x.2) (fun i j vi vj s Q E x => cmp i j vi vj s Q E x.1) _ 0 _ v _ rfl hn ?_ ⟨?_, ?_⟩ hP (Heap.get?_update_self _ hS' rfl) fun v' h'' tk'' hP' hk'' => ?_⟩
  · exact fun h h' x hk => ⟨hH _ _ x.1 fun b o hb e => hk b o (Nat.ne_of_lt (hI ▸ hb)) (Nat.ne_of_lt (Nat.lt_succ_of_lt (hI ▸ hb))) e, x.2.at fun o e => hk _ _ hIl lS e⟩
  · obtain ⟨o, ho, hc⟩ := hst'.1
    exact ⟨o, hk2 _ _ (Ne.symm hSI) ho, hc⟩
  · exact hH _ _ hH2 fun b o hb e => hk2 b o (Nat.ne_of_lt (Nat.lt_succ_of_lt (hI ▸ hb))) (hk' b o (ne1 (Nat.ne_of_lt (hI ▸ hb))) e)
  · exact (hst'.2).at fun o e => hk2 _ _ lS e
  · refine hQ v' h'' tk'' hP' fun b o e => ?_
    have hb : b < I := hI ▸ Heap.lt_size e
    exact hk'' b o (Nat.ne_of_lt hb) (Nat.ne_of_lt (Nat.lt_succ_of_lt hb)) (hk2 b o (Nat.ne_of_lt (Nat.lt_succ_of_lt hb)) (hk' b o (ne1 (Nat.ne_of_lt hb)) (e2 b o (e1 b o e))))

theorem max_loop {prog : Program} {w : World} {A : Around} {R : Result → Shared → Prop} {I S l : Addr} {items : Array Value} {H : Heap → Prop} {bt : Nat → Nat → Bool} (hh : A.handled = none) (hlI : l ≠ I) (hSI : S ≠ I)
    (hH : ∀ h h' : Heap, H h → (∀ b o, b ≠ I → b ≠ S → h.get? b = some o → h'.get? b = some o) → H h') (hl : ∀ h, H h → h.IsList l items)
    (cmp : ∀ (i j : Nat) (vi vj : Value) (s : Shared) (Q : Value → Shared → Prop) (E : Value → Shared → Prop), H s.heap → items[i]? = some vi → items[j]? = some vj → Q (.bool (bt i j)) s → wpAny (model prog w) A.in1 (richCompare .Gt vi vj) Q E s) :
    ∀ (k j : Nat) (s : Shared) (vb : Value) (c : Nat), items.size - (j + 1) = k → j + 1 ≤ items.size → s.heap.IsListIter I l (j + 1) → H s.heap → items[argBest bt j]? = some vb →
    s.heap.get? S = some { cls := .type "list", dict := none, data := .seq #[vb, vb] c, slots := #[] } →
    (∀ v h' tk, items[argBest bt (items.size - 1)]? = some v → (∀ b o, b ≠ I → b ≠ S → s.heap.get? b = some o → h'.get? b = some o) → R (.ok (.ret v)) { s with heap := h', toks := tk }) →
    codeAny (model prog w) A (.builtin "max.loop" ⟨[.ref I, .none, .ref S], []⟩) R s := by
  have hname : (toString "max" ++ toString ".loop" : String) = "max.loop" := by decide
  have W := Walks.list (prog := prog) (w := w) (A := A.in1) hh I l hlI items
  have ne1 : ∀ {b : Addr}, b ≠ I → b ∉ [I] := fun h hm => h (List.mem_singleton.mp hm)
  intro k
  induction k with
  | zero =>
    intro j s vb c hk hj hit hHs hvb hS hR
    have hin : j + 1 = items.size := by omega
    refine codeAny_builtin PySem.F.entry_max_loop ?_
    rw [Around.under_plainId PySem.F.plain_max_loop _]
    show wpAny _ A.in1 (seqItems? (.ref S) >>= _) _ _ s
    refine wpAny_bind (wpAny_seqItems hS rfl ?_)
    show wpAny _ A.in1 (tryCatch (pyNext (.ref I)) _ >>= _) _ _ s
    refine wpAny_bind (wpAny_tryCatch (W.done s _ _ ⟨hin ▸ hit, hl _ hHs⟩ fun h' tk hk' => ?_))
    have hS' := hk' S _ (ne1 hSI) hS
    show wpAny _ A.in1 (updateSeq S (fun _ => #[]) >>= _) _ _ _
    refine wpAny_bind (wpAny_updateSeq hS' rfl (wpAny_bind (wpAny_letGo (wpAny_pure ?_))))
    exact hR vb _ tk (by rw [← hin]; exact hvb) fun b o hbI hbS e => (Heap.get?_update_other _ _ (Ne.symm hbS)).trans (hk' b o (ne1 hbI) e)
  | succ k ih =>
    intro j s vb c hk hj hit hHs hvb hS hR
    have hlt : j + 1 < items.size := by omega
    refine codeAny_builtin PySem.F.entry_max_loop ?_
    rw [Around.under_plainId PySem.F.plain_max_loop _]
    show wpAny _ A.in1 (seqItems? (.ref S) >>= _) _ _ s
    refine wpAny_bind (wpAny_seqItems hS rfl ?_)
    show wpAny _ A.in1 (tryCatch (pyNext (.ref I)) _ >>= _) _ _ s
    refine wpAny_bind (wpAny_tryCatch (W.item (j + 1) s _ _ hlt ⟨hit, hl _ hHs⟩ fun v h' tk hP hst' hk' => ?_))
    have hS' := hk' S _ (ne1 hSI) hS
    have hH' : H h' := hH _ _ hHs fun b o hbI _ e => hk' b o (ne1 hbI) e
    show wpAny _ A.in1 (tryCatch (holding [v, v] (richCompare .Gt v vb >>= _)) _ >>= _) _ _ _
    refine wpAny_bind (wpAny_tryCatch (wpAny_holding (wpAny_bind (cmp (j + 1) (argBest bt j) v vb _ _ _ hH' hP hvb ?_))))
    refine wpAny_bind (wpAny_holding (wpAny_truthy_bool ?_))
    refine wpAny_bind (wpAny_letGo (wpAny_pure ?_))
    cases hb : bt (j + 1) (argBest bt j) with
    | true =>
      simp only [if_true]
      refine wpAny_bind (wpAny_updateSeq hS' rfl (wpAny_bind (wpAny_letGo ?_)))
      rw [hname]
      have hk2 : ∀ b o, b ≠ S → h'.get? b = some o → (h'.update S (Obj.mapSeq fun _ => #[v, v])).get? b = some o := fun b o hbS e => (Heap.get?_update_other _ _ (Ne.symm hbS)).trans e
      refine wpAny_pure ⟨plainId_quiet PySem.F.plain_max_loop _, ih (j + 1) _ v _ (by omega) hlt ?_ ?_ (by simp only [argBest, hb, if_true]; exact hP) (Heap.get?_update_self _ hS' rfl) fun v' h'' tk'' hP' hk'' => ?_⟩
      · obtain ⟨o, ho, hc⟩ := hst'.1
        exact ⟨o, hk2 _ _ (Ne.symm hSI) ho, hc⟩
      · exact hH _ _ hH' fun b o _ hbS e => hk2 b o hbS e
      · exact hR v' h'' tk'' hP' fun b o hbI hbS e => hk'' b o hbI hbS (hk2 b o hbS (hk' b o (ne1 hbI) e))
    | false =>
      simp only [Bool.false_eq_true, if_false]
      refine wpAny_bind (wpAny_letGo ?_)
      rw [hname]
      refine wpAny_pure ⟨plainId_quiet PySem.F.plain_max_loop _, ih (j + 1) _ vb c (by omega) hlt hst'.1 hH' (by simp only [argBest, hb, Bool.false_eq_true, if_false]; exact hvb) hS' fun v' h'' tk'' hP' hk'' => ?_⟩
      exact hR v' h'' tk'' hP' fun b o hbI hbS e => hk'' b o hbI hbS (hk' b o (ne1 hbI) e)

theorem call_max {prog : Program} {w : World} {A : Around} {E : Value → Shared → Prop} {s : Shared} {l : Addr} {items : Array Value} {H : Heap → Prop} {bt : Nat → Nat → Bool} {Q : Value → Shared → Prop} (hh : A.handled = none) (hHs : H s.heap) (hn : 0 < items.size) (hls : s.heap.IsList l items)
    (hH : ∀ h h' : Heap, H h → (∀ b o, b < s.heap.objs.size → h.get? b = some o → h'.get? b = some o) → H h')
    (cmp : ∀ (i j : Nat) (vi vj : Value) (s : Shared) (Q : Value → Shared → Prop) (E : Value → Shared → Prop), H s.heap → items[i]? = some vi → items[j]? = some vj → Q (.bool (bt i j)) s → wpAny (model prog w) A.in1 (richCompare .Gt vi vj) Q E s)
    (hQ : ∀ v h' tk, items[argBest bt (items.size - 1)]? = some v → (∀ b o, s.heap.get? b = some o → h'.get? b = some o) → Q v { s with heap := h', toks := tk }) :
    wpAny (model prog w) A (call (.builtin "max") [.ref l]) Q E s := by
  have hname : (toString "max" ++ toString ".loop" : String) = "max.loop" := by decide
  obtain ⟨ol, hol, hlr⟩ := id hls
  have hlt : l < s.heap.objs.size := Heap.lt_size hol
  refine call_function_tree PySem.F.kind_max PySem.F.plain_max PySem.F.entry_max (PySem.F.args_max1 _) ?_
  show wpAny _ A.in1 (Builtin.Builtins.bindParams "max" ["key", "default"] 0 ⟨[], []⟩ >>= _) _ _ s
  refine wpAny_bind (wpAny_of_eq (show Builtin.Builtins.bindParams "max" ["key", "default"] 0 ⟨[], []⟩ = pure [none, none] from rfl) ?_)
  refine wpAny_bind (wpAny_pure ?_)
  refine wpAny_bind (wpAny_pyIter_list hls ?_)
  refine wpAny_bind (wpAny_newObj_type ?_)
  dsimp only
  generalize hI : s.heap.objs.size = I
  have hIl : l ≠ I := Nat.ne_of_lt (hI ▸ hlt)
  generalize hg1 : s.heap.push { cls := .type "list_iterator", data := .fields #[.ref l, .int 0 0] } = h1
  have hS1 : h1.objs.size = I + 1 := by rw [← hg1, Heap.size_push, hI]
  have e1 : ∀ b o, s.heap.get? b = some o → h1.get? b = some o := fun b o e => hg1 ▸ Heap.get?_push_of_some _ e
  have i1 : h1.IsListIter I l 0 := ⟨_, by rw [← hg1, ← hI]; exact Heap.get?_push_size _ rfl, rfl, rfl⟩
  rw [hS1]
  have e2 : ∀ b o, h1.get? b = some o → (h1.push { cls := .type "list", data := .seq ([] : List Value).toArray }).get? b = some o := fun b o e => Heap.get?_push_of_some _ e
  have s2 : (h1.push { cls := .type "list", data := .seq ([] : List Value).toArray }).get? (I + 1) = some { cls := .type "list", dict := none, data := .seq #[] 0, slots := #[] } := by
    rw [← hS1]; exact Heap.get?_push_size _ rfl
  generalize h1.push { cls := .type "list", data := .seq ([] : List Value).toArray } = h2 at e2 s2 ⊢
  have W := Walks.list (prog := prog) (w := w) (A := A.in1) hh I l hIl items
  have hH2 : H h2 := hH _ _ hHs fun b o _ e => e2 b o (e1 b o e)
  have i2 : h2.IsListIter I l 0 := let ⟨o, ho, hr⟩ := i1; ⟨o, e2 _ _ ho, hr⟩
  have l2 : h2.IsList l items := hls.at fun o e => e2 _ _ (e1 _ _ e)
  have ne1 : ∀ {b : Addr}, b ≠ I → b ∉ [I] := fun h hm => h (List.mem_singleton.mp hm)
  have hSI : I + 1 ≠ I := by omega
  rw [hname]
  refine wpAny_pure ⟨plainId_quiet PySem.F.plain_max_loop _, ?_⟩
  refine codeAny_builtin PySem.F.entry_max_loop ?_
  rw [Around.under_plainId PySem.F.plain_max_loop _]
  show wpAny _ A.in1 (seqItems? (.ref (I + 1)) >>= _) _ _ _
  refine wpAny_bind (wpAny_seqItems s2 rfl ?_)
  show wpAny _ A.in1 (tryCatch (pyNext (.ref I)) _ >>= _) _ _ _
  refine wpAny_bind (wpAny_tryCatch (W.item 0 _ _ _ hn ⟨i2, l2⟩ fun v h' tk hP hst' hk' => ?_))
  have hS' := hk' (I + 1) _ (ne1 hSI) s2
  show wpAny _ A.in1 (updateSeq (I + 1) (fun _ => #[v, v]) >>= _) _ _ _
  refine wpAny_bind (wpAny_updateSeq hS' rfl ?_)
  rw [hname]
  have hk2 : ∀ b o, b ≠ I + 1 → h'.get? b = some o → (h'.update (I + 1) (Obj.mapSeq fun _ => #[v, v])).get? b = some o := fun b o hbS e => (Heap.get?_update_other _ _ (Ne.symm hbS)).trans e
  let H' : Heap → Prop := fun h => H h ∧ h.IsList l items
  have lS : l ≠ I + 1 := Nat.ne_of_lt (Nat.lt_succ_of_lt (hI ▸ hlt))
  refine wpAny_pure ⟨plainId_quiet PySem.F.plain_max_loop _, max_loop (A := A) (H := H') (bt := bt) hh hIl hSI ?_ (fun h x => x.2) (fun i j vi vj s Q E x => cmp i j vi vj s Q E x.1) _ 0 _ v _ rfl hn ?_ ⟨?_, ?_⟩ hP (Heap.get?_update_self _ hS' rfl) fun v' h'' tk'' hP' hk'' => ?_⟩
  · exact fun h h' x hk => ⟨hH _ _ x.1 fun b o hb e => hk b o (Nat.ne_of_lt (hI ▸ hb)) (Nat.ne_of_lt (Nat.lt_succ_of_lt (hI ▸ hb))) e, x.2.at fun o e => hk _ _ hIl lS e⟩
  · obtain ⟨o, ho, hc⟩ := hst'.1
    exact ⟨o, hk2 _ _ (Ne.symm hSI) ho, hc⟩
  · exact hH _ _ hH2 fun b o hb e => hk2 b o (Nat.ne_of_lt (Nat.lt_succ_of_lt (hI ▸ hb))) (hk' b o (ne1 (Nat.ne_of_lt (hI ▸ hb))) e)
  · exact (hst'.2).at fun o e => hk2 _ _ lS e
  · refine hQ v' h'' tk'' hP' fun b o e => ?_
    have hb : b < I := hI ▸ Heap.lt_size e
    exact hk'' b o (Nat.ne_of_lt hb) (Nat.ne_of_lt (Nat.lt_succ_of_lt hb)) (hk2 b o (Nat.ne_of_lt (Nat.lt_succ_of_lt hb)) (hk' b o (ne1 (Nat.ne_of_lt hb)) (e2 b o (e1 b o e))))

end Mine
end

section
open PySem PySem.W PyProof.Rows PySem.Calls
set_option Elab.async false
set_option maxRecDepth 100000
namespace Mine
structure Hid (p : Prop) : Prop where
  out : p
def IsSeq (tup : Bool) (h : Heap) (a : Addr) (vs : List Value) : Prop := match tup with | true => IsTup h a vs.toArray | false => h.IsList a vs.toArray
def SeqInts (tup : Bool) (h : Heap) (v : Value) (ns : List Int) : Prop := ∃ a vs, v = .ref a ∧ IsSeq tup h a vs ∧ IntsAre vs ns
/-- a row of rows of ints -/
def Rows (tup : Bool) (h : Heap) (items : List Value) (nss : List (List Int)) : Prop := items.length = nss.length ∧ ∀ (i : Nat) (v : Value) (ns : List Int), items[i]? = some v → nss[i]? = some ns → SeqInts tup h v ns
theorem IsSeq.keep {tup : Bool} {h h' : Heap} {a : Addr} {vs : List Value} (x : IsSeq tup h a vs) (k : ∀ o, h.get? a = some o → h'.get? a = some o) : IsSeq tup h' a vs := by
  cases tup
  · exact Heap.IsList.at x k
  · obtain ⟨o, ho, r⟩ := x; exact ⟨o, k _ ho, r⟩
section
variable {prog : Program} {w : World} {A : Around} {E : Value → Shared → Prop} {s : Shared}
theorem item_any {value slice : PySem.Expr} {l : Addr} {vs : List Value} {k : Int} {u : Tok} {v : Value} {Q : Value → Shared → Prop}
    (hl : s.heap.IsList l vs.toArray) (h0 : 0 ≤ k) (hhi : k < 2 ^ 63) (hx : vs[k.toNat]? = some v) (h : Q v s)
    (hs : subscripted slice false (.ref l) (.int k u) = operate [.ref l, .int k u] (getItem (.ref l) (.int k u)) := by with_unfolding_all rfl) :
    wpAny (model prog w) A (subscriptTail value slice (.ref l) (.int k u)) Q E s :=
  tail_any hl.typeIs slot_list_getitem.lookup (wpAny_getItem_list hl h0 hhi (by simpa using hx) h) hs
theorem isi_seq {tup : Bool} {a tp : Addr} {vs : List Value} {Q : Value → Shared → Prop} (x : IsSeq tup s.heap a vs) (ht : s.heap.get? tp = some { cls := .type "tuple", data := .seq [Value.type "list", Value.type "tuple"].toArray })
    (h : ∀ tk, Q (.bool true) { s with toks := tk }) : wpAny (model prog w) A (call (.builtin "isinstance") [.ref a, .ref tp]) Q E s := by
  cases tup
  · refine IsiPair.tupleOfB (Tx := "list") (vs := [true, false]) ?_ (Heap.IsList.typeIs x) ht rfl h
    exact .cons (Answers.of_true PySem.F.isi_meta_list PySem.F.sub_list_list) (.cons (Answers.of_false_list (by decide +kernel) PySem.F.isi_meta_tuple PySem.F.sub_list_tuple) .nil)
  · refine IsiPair.tupleOfB (Tx := "tuple") (vs := [false, true]) ?_ (IsTup.typeIs x) ht rfl h
    exact .cons (Answers.of_false_tuple (by decide +kernel) PySem.F.isi_meta_list PySem.F.sub_tuple_list) (.cons (Answers.of_true PySem.F.isi_meta_tuple PySem.F.sub_tuple_tuple) .nil)
theorem inBase {g h : Heap} {L l : Addr} {m : Str → Option Value} {items : Array Value} (hl : g.IsList l items) (F : Fr g L h m) : h.IsList l items := hl.at fun o e => F.keep _ o e
theorem seqBase {tup : Bool} {g h : Heap} {L a : Addr} {m : Str → Option Value} {vs : List Value} (x : IsSeq tup g a vs) (F : Fr g L h m) : IsSeq tup h a vs := x.keep fun o e => F.keep _ o e
def minRow (nss : List (List Int)) : List Int := nss.getD (argBest (fun i j => lexOf .Lt (nss.getD i []) (nss.getD j [])) (nss.length - 1)) []
theorem row_min {tup : Bool} {g : Heap} {L l : Addr} {m : Str → Option Value} {news : List (Addr × Obj)} {items : List Value} {nss : List (List Int)} {Q : Value → Shared → Prop} (F : Fr g L s.heap m) (N : News g L s.heap news) (hl : g.IsList l items.toArray) (hr : Rows tup g items nss) (hn : 0 < nss.length) (hh : A.handled = none) (hu : A.units + 8 < cLine)
    (hQ : ∀ v h' tk, SeqInts tup g v (minRow nss) → Fr g L h' m → News g L h' news → Q v { s with heap := h', toks := tk }) : wpAny (model prog w) A (call (.builtin "min") [.ref l]) Q E s := by
  obtain ⟨hlen, hrow⟩ := hr
  have at_ : ∀ (i : Nat) (v : Value), items[i]? = some v → SeqInts tup g v (nss.getD i []) := fun i v e => by
    have hi : i < items.length := (List.getElem?_eq_some_iff.mp e).1
    have hi' : i < nss.length := hlen ▸ hi
    exact hrow i v _ e (by rw [List.getD_eq_getElem?_getD, List.getElem?_eq_getElem hi']; rfl)
  refine call_min (items := items.toArray) (H := fun h => ∀ b o, g.get? b = some o → h.get? b = some o) (bt := fun i j => lexOf .Lt (nss.getD i []) (nss.getD j [])) hh F.keep (by simp; omega) (inBase hl F) ?_ ?_ ?_
  · exact fun h h' x hk b o e => hk b o (Heap.lt_size (F.keep b o e)) (x b o e)
  · intro i j vi vj s' Q' E' hH ei ej hq
    obtain ⟨a, vs, rfl, xa, ia⟩ := at_ i vi (by simpa using ei)
    obtain ⟨b, us, rfl, xb, ib⟩ := at_ j vj (by simpa using ej)
    have ka := xa.keep fun o e => hH _ o e
    have kb := xb.keep fun o e => hH _ o e
    have hu' : A.in1.units < cLine := by show A.units + 1 < cLine; omega
    cases tup
    · exact lst_lt ka kb ia ib hu' hq
    · exact tup_lt ka kb ia ib hu' hq
  · intro v h' tk e hk
    refine hQ v h' tk ?_ ⟨F.ns.keeps hk, fun b o q => hk b o (F.keep b o q), F.above⟩ fun q hq => ⟨hk _ _ (N q hq).1, (N q hq).2⟩
    have e' : items[argBest (fun i j => lexOf .Lt (nss.getD i []) (nss.getD j [])) (nss.length - 1)]? = some v := by
      rw [← hlen]
      simpa using e
    exact at_ _ v e'
def maxRow (nss : List (List Int)) : List Int := nss.getD (argBest (fun i j => lexOf .Gt (nss.getD i []) (nss.getD j [])) (nss.length - 1)) []
theorem row_max {tup : Bool} {g : Heap} {L l : Addr} {m : Str → Option Value} {news : List (Addr × Obj)} {items : List Value} {nss : List (List Int)} {Q : Value → Shared → Prop} (F : Fr g L s.heap m) (N : News g L s.heap news) (hl : g.IsList l items.toArray) (hr : Rows tup g items nss) (hn : 0 < nss.length) (hh : A.handled = none) (hu : A.units + 8 < cLine)
    (hQ : ∀ v h' tk, SeqInts tup g v (maxRow nss) → Fr g L h' m → News g L h' news → Q v { s with heap := h', toks := tk }) : wpAny (model prog w) A (call (.builtin "max") [.ref l]) Q E s := by
  obtain ⟨hlen, hrow⟩ := hr
  have at_ : ∀ (i : Nat) (v : Value), items[i]? = some v → SeqInts tup g v (nss.getD i []) := fun i v e => by
    have hi : i < items.length := (List.getElem?_eq_some_iff.mp e).1
    have hi' : i < nss.length := hlen ▸ hi
    exact hrow i v _ e (by rw [List.getD_eq_getElem?_getD, List.getElem?_eq_getElem hi']; rfl)
  refine call_max (items := items.toArray) (H := fun h => ∀ b o, g.get? b = some o → h.get? b = some o) (bt := fun i j => lexOf .Gt (nss.getD i []) (nss.getD j [])) hh F.keep (by simp; omega) (inBase hl F) ?_ ?_ ?_
  · exact fun h h' x hk b o e => hk b o (Heap.lt_size (F.keep b o e)) (x b o e)
  · intro i j vi vj s' Q' E' hH ei ej hq
    obtain ⟨a, vs, rfl, xa, ia⟩ := at_ i vi (by simpa using ei)
    obtain ⟨b, us, rfl, xb, ib⟩ := at_ j vj (by simpa using ej)
    have ka := xa.keep fun o e => hH _ o e
    have kb := xb.keep fun o e => hH _ o e
    have hu' : A.in1.units < cLine := by show A.units + 1 < cLine; omega
    cases tup
    · exact lst_gt ka kb ia ib hu' hq
    · exact tup_gt ka kb ia ib hu' hq
  · intro v h' tk e hk
    refine hQ v h' tk ?_ ⟨F.ns.keeps hk, fun b o q => hk b o (F.keep b o q), F.above⟩ fun q hq => ⟨hk _ _ (N q hq).1, (N q hq).2⟩
    have e' : items[argBest (fun i j => lexOf .Gt (nss.getD i []) (nss.getD j [])) (nss.length - 1)]? = some v := by
      rw [← hlen]
      simpa using e
    exact at_ _ v e'
end
end Mine
end

section
open PySem
namespace Mine
theorem lexLt_irrefl : ∀ a : List Int, lexLt a a = false
  | [] => rfl
  | a :: r => by simp [lexLt, lexLt_irrefl r]
theorem lexLt_trans : ∀ a b c : List Int, lexLt a b = true → lexLt b c = true → lexLt a c = true
  | [], [], _, h, _ => by simp [lexLt] at h
  | [], _ :: _, [], _, h => by simp [lexLt] at h
  | [], _ :: _, _ :: _, _, _ => rfl
  | _ :: _, [], _, h, _ => by simp [lexLt] at h
  | _ :: _, _ :: _, [], _, h => by simp [lexLt] at h
  | a :: r, b :: q, c :: p, h1, h2 => by
    unfold lexLt at h1 h2 ⊢
    by_cases e1 : a = b
    · subst e1
      rw [if_pos rfl] at h1
      by_cases e2 : a = c
      · subst e2
        rw [if_pos rfl] at h2 ⊢
        exact lexLt_trans r q p h1 h2
      · rw [if_neg e2] at h2 ⊢
        exact h2
    · rw [if_neg e1] at h1
      by_cases e2 : b = c
      · subst e2
        rw [if_neg e1]; exact h1
      · rw [if_neg e2] at h2
        have h1' := of_decide_eq_true h1
        have h2' := of_decide_eq_true h2
        have e3 : ¬ a = c := by omega
        rw [if_neg e3]
        exact decide_eq_true (by omega)
theorem lexLt_total : ∀ a b : List Int, lexLt a b = false → lexLt b a = false → a = b
  | [], [], _, _ => rfl
  | [], _ :: _, h, _ => by simp [lexLt] at h
  | _ :: _, [], _, h => by simp [lexLt] at h
  | a :: r, b :: q, h1, h2 => by
    unfold lexLt at h1 h2
    by_cases e : a = b
    · subst e
      rw [if_pos rfl] at h1 h2
      rw [lexLt_total r q h1 h2]
    · rw [if_neg e] at h1
      rw [if_neg (Ne.symm e)] at h2
      have h1' := of_decide_eq_false h1
      have h2' := of_decide_eq_false h2
      omega
/-- what both begin with -/
def lcp2 : List Int → List Int → List Int
  | a :: r, b :: q => if a = b then a :: lcp2 r q else []
  | _, _ => []
theorem argBest_le (bt : Nat → Nat → Bool) : ∀ k, argBest bt k ≤ k
  | 0 => Nat.le_refl _
  | k + 1 => by
    unfold argBest
    have := argBest_le bt k
    split <;> omega
theorem argBest_min (x : Nat → List Int) : ∀ k j, j ≤ k → lexLt (x j) (x (argBest (fun i j => lexOf .Lt (x i) (x j)) k)) = false
  | 0, j, h => by
    have : j = 0 := by omega
    subst this
    exact lexLt_irrefl _
  | k + 1, j, h => by
    have ih := argBest_min x k
    unfold argBest
    cases hb : lexOf .Lt (x (k + 1)) (x (argBest (fun i j => lexOf .Lt (x i) (x j)) k)) with
    | true =>
      simp only [if_true]
      by_cases e : j = k + 1
      · subst e; exact lexLt_irrefl _
      · cases hq : lexLt (x j) (x (k + 1)) with
        | false => rfl
        | true =>
          have := lexLt_trans _ _ _ hq hb
          rw [ih j (by omega)] at this
          cases this
    | false =>
      simp only [Bool.false_eq_true, if_false]
      by_cases e : j = k + 1
      · subst e; exact hb
      · exact ih j (by omega)
theorem argBest_max (x : Nat → List Int) : ∀ k j, j ≤ k → lexLt (x (argBest (fun i j => lexOf .Gt (x i) (x j)) k)) (x j) = false
  | 0, j, h => by
    have : j = 0 := by omega
    subst this
    exact lexLt_irrefl _
  | k + 1, j, h => by
    have ih := argBest_max x k
    unfold argBest
    cases hb : lexOf .Gt (x (k + 1)) (x (argBest (fun i j => lexOf .Gt (x i) (x j)) k)) with
    | true =>
      simp only [if_true]
      by_cases e : j = k + 1
      · subst e; exact lexLt_irrefl _
      · cases hq : lexLt (x (k + 1)) (x j) with
        | false => rfl
        | true =>
          have := lexLt_trans _ _ _ hb hq
          rw [ih j (by omega)] at this
          cases this
    | false =>
      simp only [Bool.false_eq_true, if_false]
      by_cases e : j = k + 1
      · subst e; exact hb
      · exact ih j (by omega)
theorem getD_mem {nss : List (List Int)} {i : Nat} (h : i < nss.length) : nss.getD i [] ∈ nss := by
  rw [List.getD_eq_getElem?_getD, List.getElem?_eq_getElem h]
  exact List.getElem_mem h
theorem minRow_mem {nss : List (List Int)} (h : 0 < nss.length) : minRow nss ∈ nss := getD_mem (by have := argBest_le (fun i j => lexOf .Lt (nss.getD i []) (nss.getD j [])) (nss.length - 1); omega)
theorem maxRow_mem {nss : List (List Int)} (h : 0 < nss.length) : maxRow nss ∈ nss := getD_mem (by have := argBest_le (fun i j => lexOf .Gt (nss.getD i []) (nss.getD j [])) (nss.length - 1); omega)
theorem minRow_le {nss : List (List Int)} {ns : List Int} (h : ns ∈ nss) : lexLt ns (minRow nss) = false := by
  obtain ⟨j, hj, e⟩ := List.getElem_of_mem h
  have := argBest_min (fun i => nss.getD i []) (nss.length - 1) j (by omega)
  have e2 : nss.getD j [] = ns := by rw [List.getD_eq_getElem?_getD, List.getElem?_eq_getElem hj, ← e]; rfl
  simp only [e2] at this
  exact this
theorem le_maxRow {nss : List (List Int)} {ns : List Int} (h : ns ∈ nss) : lexLt (maxRow nss) ns = false := by
  obtain ⟨j, hj, e⟩ := List.getElem_of_mem h
  have := argBest_max (fun i => nss.getD i []) (nss.length - 1) j (by omega)
  have e2 : nss.getD j [] = ns := by rw [List.getD_eq_getElem?_getD, List.getElem?_eq_getElem hj, ← e]; rfl
  simp only [e2] at this
  exact this
/-- if b is not below a and they agree ahead of i, i a place of a, then i is one of b -/
theorem place_of : ∀ (a b : List Int) (i : Nat), lexLt b a = false → (∀ j, j < i → a.getD j 0 = b.getD j 0) → i < a.length → i < b.length
  | [], _, i, _, _, h => by simp at h
  | _ :: _, [], _, h, _, _ => by simp [lexLt] at h
  | a :: r, b :: q, 0, _, _, _ => by simp
  | a :: r, b :: q, i + 1, h, he, hi => by
    have e0 : a = b := by simpa using he 0 (by omega)
    subst e0
    have h' : lexLt q r = false := by simpa [lexLt] using h
    have := place_of r q i h' (fun j hj => by simpa using he (j + 1) (by omega)) (by simpa using hi)
    simpa using this
theorem lcp2_at : ∀ (a b : List Int) (i : Nat), (∀ j, j < i → a.getD j 0 = b.getD j 0) → i < a.length → i < b.length → a.getD i 0 ≠ b.getD i 0 → lcp2 a b = a.take i
  | [], _, i, _, h, _, _ => by simp at h
  | _ :: _, [], _, _, _, h, _ => by simp at h
  | a :: r, b :: q, 0, _, _, _, h => by
    have : a ≠ b := by simpa using h
    simp [lcp2, this]
  | a :: r, b :: q, i + 1, he, hi, hj, hn => by
    have e0 : a = b := by simpa using he 0 (by omega)
    subst e0
    have := lcp2_at r q i (fun j hj => by simpa using he (j + 1) (by omega)) (by simpa using hi) (by simpa using hj) (by simpa using hn)
    simp [lcp2, this]
theorem lcp2_all : ∀ (a b : List Int), (∀ j, j < a.length → a.getD j 0 = b.getD j 0) → lexLt b a = false → lcp2 a b = a
  | [], b, _, _ => by cases b <;> rfl
  | _ :: _, [], _, h => by simp [lexLt] at h
  | a :: r, b :: q, he, h => by
    have e0 : a = b := by simpa using he 0 (by simp)
    subst e0
    have h' : lexLt q r = false := by simpa [lexLt] using h
    have := lcp2_all r q (fun j hj => by simpa using he (j + 1) (by simpa using hj)) h'
    simp [lcp2, this]
end Mine
end

section
open PySem PySem.Sre
namespace Mine
theorem runFor_some {m : M} (h : m.outcome.isSome = true) : ∀ n, M.runFor n m = m
  | 0 => rfl
  | n + 1 => by unfold M.runFor; rw [if_pos h]
theorem runFor_add : ∀ (a b : Nat) (m : M), M.runFor (a + b) m = M.runFor b (M.runFor a m)
  | 0, b, m => by rw [Nat.zero_add]; rfl
  | a + 1, b, m => by
    rw [Nat.add_right_comm]
    by_cases h : m.outcome.isSome = true
    · rw [runFor_some h, runFor_some h, runFor_some h]
    · have e1 : M.runFor (a + b + 1) m = M.runFor (a + b) m.step := by
        show (if m.outcome.isSome = true then m else M.runFor (a + b) m.step) = _
        rw [if_neg h]
      have e2 : M.runFor (a + 1) m = M.runFor a m.step := by
        show (if m.outcome.isSome = true then m else M.runFor a m.step) = _
        rw [if_neg h]
      rw [e1, e2, runFor_add a b]
/-- the machine ends within k steps, and where it ends P holds -/
def Ends (m : M) (k : Nat) (P : M → Prop) : Prop := ∃ n, n ≤ k ∧ (M.runFor n m).outcome.isSome = true ∧ P (M.runFor n m)
theorem Ends.now {m : M} {P : M → Prop} (h : m.outcome.isSome = true) (p : P m) : Ends m 0 P := ⟨0, Nat.le_refl _, h, p⟩
theorem Ends.mono {m : M} {k k' : Nat} {P : M → Prop} (h : Ends m k P) (hk : k ≤ k') : Ends m k' P := let ⟨n, a, b⟩ := h; ⟨n, Nat.le_trans a hk, b⟩
theorem Ends.after {m m' : M} {a k : Nat} {P : M → Prop} (e : M.runFor a m = m') (h : Ends m' k P) : Ends m (a + k) P := by
  obtain ⟨n, hn, ho, hp⟩ := h
  refine ⟨a + n, by omega, ?_, ?_⟩ <;> rw [runFor_add, e] <;> assumption
theorem Ends.step {m m' : M} {k : Nat} {P : M → Prop} (ho : m.outcome = none) (e : m.step = m') (h : Ends m' k P) : Ends m (k + 1) P := by
  have e1 : M.runFor 1 m = m' := by
    show (if m.outcome.isSome = true then m else M.runFor 0 m.step) = _
    rw [ho, if_neg (by decide)]; exact e
  have := Ends.after e1 h
  rwa [Nat.add_comm] at this

def codeE : Array Nat := #[14, 8, 1, 3, 3, 1, 1, 37, 0, 16, 37, 17, 0, 13, 11, 9, 0, 67043328, 126, 126, 0, 0, 0, 0, 0, 13, 11, 9, 0, 67043328, 126, 126, 0, 0, 0, 0, 0, 17, 1, 1]
def codeI : Array Nat := #[14, 8, 1, 2, 4294967295, 1, 1, 46, 0, 16, 46, 24, 9, 1, 4294967295, 13, 4, 8, 0, 0, 1, 6, 5, 1]
/-- an attempt at s -/
def stA (code T : Array Nat) (n s : Nat) (b : Bool) (mk : Array (Option Nat)) (h : Nat) (sn : Seen) : M :=
  { code := code, text := T, lim := n, start := s, lastStart := n, pc := 9, pos := s, handed := h, outermost := b, marks := mk, lastmark := -1, lastindex := -1,
    frames := [{ wait := .nextStart, pc := 9, pos := s, outermost := b }], weight := 1, seen := sn }
def lit (code : Array Nat) : Nat := code.getD 10 0
def hasLit (code : Array Nat) : Prop := code.getD 9 0 = 16 ∧ 9 < code.size ∧ code.getD 2 0 = 1
theorem one_step {m : M} (h : m.outcome = none) : M.runFor 1 m = m.step := by
  show (if m.outcome.isSome = true then m else M.runFor 0 m.step) = _
  rw [h, if_neg (by decide)]; rfl
def sayNo (code T : Array Nat) (n s : Nat) (b : Bool) (mk : Array (Option Nat)) (h : Nat) (sn : Seen) : M := { (stA code T n s b mk h sn) with answer := some false }
theorem step_pop {m : M} {f : PySem.Sre.Frame} {rest : List PySem.Sre.Frame} {yes : Bool} (h : m.outcome = none) (ha : m.answer = some yes) (hf : m.frames = f :: rest) :
    m.step = M.resume { m with answer := none, frames := rest, weight := m.weight - (1 + f.kept.marks.size), pc := f.pc, pos := f.pos, outermost := f.outermost } f yes := by
  unfold M.step
  rw [h, if_neg (by decide), ha, hf]
theorem step_fin {m : M} {yes : Bool} (h : m.outcome = none) (ha : m.answer = some yes) (hf : m.frames = []) : m.step = { m with outcome := some (if yes then .matched else .failed) } := by
  unfold M.step
  rw [h, if_neg (by decide), ha, hf]
theorem step_exec {m : M} (h : m.outcome = none) (ha : m.answer = none) (hp : m.pc < m.code.size) : m.step = m.exec := by
  unfold M.step
  rw [h, if_neg (by decide), ha]
  simp only [hp, if_true]
theorem resume_start {m : M} {f : PySem.Sre.Frame} (hw : f.wait = .nextStart) (yes : Bool) : m.resume f yes = if yes = true then m.say true else if f.pos < m.lastStart then ({ m with mustAdvance := false } : M).attemptFrom (f.pos + 1) false else m.say false := by
  unfold M.resume
  rw [hw]
theorem no_resume {code T : Array Nat} {n s : Nat} {b : Bool} {mk : Array (Option Nat)} {h : Nat} {sn : Seen} (hf : code.getD 2 0 ≠ 4) (hs : s < n) : (sayNo code T n s b mk h sn).step = stA code T n (s + 1) false mk (s + 1) sn := by
  rw [step_pop (f := { wait := .nextStart, pc := 9, pos := s, outermost := b }) (rest := []) (yes := false) rfl rfl rfl, resume_start rfl]
  have : (code.getD 2 0 == 4) = false := beq_false_of_ne hf
  simp only [sayNo, stA, hs, M.attemptFrom, M.hasFirstSet, this, Bool.and_false, Bool.not_false, if_true, Bool.false_eq_true, if_false]
  rfl
theorem no_end {code T : Array Nat} {n s : Nat} {b : Bool} {mk : Array (Option Nat)} {h : Nat} {sn : Seen} (hs : ¬ s < n) : (M.runFor 2 (sayNo code T n s b mk h sn)).outcome = some .failed := by
  have e1 : (sayNo code T n s b mk h sn).step = { (stA code T n s b mk h sn) with answer := some false, frames := [], weight := 0 } := by
    rw [step_pop (f := { wait := .nextStart, pc := 9, pos := s, outermost := b }) (rest := []) (yes := false) rfl rfl rfl, resume_start rfl]
    simp only [sayNo, stA, hs, if_false, Bool.false_eq_true]
    rfl
  rw [show (2 : Nat) = 1 + 1 from rfl, runFor_add, one_step (m := sayNo code T n s b mk h sn) rfl, e1, one_step rfl, step_fin (yes := false) rfl rfl rfl]
  rfl
/-- the literal that begins the pattern -/
theorem lit_no {code T : Array Nat} {n s : Nat} {b : Bool} {mk : Array (Option Nat)} {h : Nat} {sn : Seen} (hc : hasLit code) (hs : ¬ s < n ∨ T.getD s 0 ≠ code.getD 10 0) :
    (stA code T n s b mk h sn).step = sayNo code T n s b mk h (sn.add 16) := by
  obtain ⟨c1, c2, _⟩ := hc
  rw [step_exec (m := stA code T n s b mk h sn) rfl rfl c2]
  unfold M.exec
  have e0 : (stA code T n s b mk h sn).word 0 = 16 := c1
  rw [e0]
  show (if s ≥ n then _ else (match accepts code 9 (T.getD s 0) (sn.add 16) with | .error why => _ | .ok (false, seen) => _ | .ok (true, seen) => _)) = _
  by_cases hn : s < n
  · rw [if_neg (by omega)]
    have hne := hs.resolve_left (fun x => x hn)
    have : accepts code 9 (T.getD s 0) (sn.add 16) = .ok (false, sn.add 16) := by
      unfold accepts
      rw [c1]
      show Except.ok (T.getD s 0 == code.getD 10 0, sn.add 16) = _
      rw [beq_false_of_ne hne]
    rw [this]
    rfl
  · rw [if_pos (by omega)]
    rfl
def onLit (code T : Array Nat) (n s : Nat) (b : Bool) (mk : Array (Option Nat)) (h : Nat) (sn : Seen) : M := { (stA code T n s b mk h sn) with pc := 11, pos := s + 1 }
theorem lit_yes {code T : Array Nat} {n s : Nat} {b : Bool} {mk : Array (Option Nat)} {h : Nat} {sn : Seen} (hc : hasLit code) (hs : s < n) (he : T.getD s 0 = code.getD 10 0) :
    (stA code T n s b mk h sn).step = onLit code T n s b mk h (sn.add 16) := by
  obtain ⟨c1, c2, _⟩ := hc
  rw [step_exec (m := stA code T n s b mk h sn) rfl rfl c2]
  unfold M.exec
  have e0 : (stA code T n s b mk h sn).word 0 = 16 := c1
  rw [e0]
  show (if s ≥ n then _ else (match accepts code 9 (T.getD s 0) (sn.add 16) with | .error why => _ | .ok (false, seen) => _ | .ok (true, seen) => _)) = _
  rw [if_neg (by omega)]
  have : accepts code 9 (T.getD s 0) (sn.add 16) = .ok (true, sn.add 16) := by
    unfold accepts
    rw [c1]
    show Except.ok (T.getD s 0 == code.getD 10 0, sn.add 16) = _
    rw [he, beq_self_eq_true]
  rw [this]
  show ({ (stA code T n s b mk h (sn.add 16)) with pc := 9 + itemWidth code 9, pos := s + 1 } : M) = _
  have : itemWidth code 9 = 2 := by unfold itemWidth; rw [c1]; rfl
  rw [this]
  rfl
theorem skip {code T : Array Nat} {n s : Nat} {b : Bool} {mk : Array (Option Nat)} {h k : Nat} {sn : Seen} {P : M → Prop} (hc : hasLit code) (hs : s < n) (hne : T.getD s 0 ≠ code.getD 10 0)
    (next : ∀ sn', Ends (stA code T n (s + 1) false mk (s + 1) sn') k P) : Ends (stA code T n s b mk h sn) (k + 2) P :=
  .step (k := k + 1) rfl (lit_no hc (.inr hne)) (.step rfl (no_resume (by rw [hc.2.2]; decide) hs) (next _))
theorem at_end {code T : Array Nat} {n s : Nat} {b : Bool} {mk : Array (Option Nat)} {h : Nat} {sn : Seen} {P : M → Prop} (hc : hasLit code) (hs : ¬ s < n) (hp : ∀ m', m'.outcome = some .failed → P m') : Ends (stA code T n s b mk h sn) 3 P := by
  refine .step (k := 2) rfl (lit_no hc (.inl hs)) ?_
  have ho := no_end (code := code) (T := T) (n := n) (s := s) (b := b) (mk := mk) (h := h) (sn := sn.add 16) hs
  exact ⟨2, Nat.le_refl _, by rw [ho]; rfl, hp _ ho⟩
end Mine
end

section
open PySem PySem.Sre
namespace Mine
theorem hasLitE : hasLit codeE := ⟨rfl, by decide, rfl⟩
theorem hasLitI : hasLit codeI := ⟨rfl, by decide, rfl⟩
def hexs : List Nat := [50, 68, 100, 69, 101, 66, 98]
theorem acceptsE1 {c : Nat} (h : c ∈ hexs) (sn : Seen) : ∃ sn', accepts codeE 13 c sn = .ok (true, sn') := by
  simp only [hexs, List.mem_cons, List.not_mem_nil, or_false] at h
  rcases h with rfl | rfl | rfl | rfl | rfl | rfl | rfl <;> exact ⟨_, rfl⟩
theorem acceptsE2 {c : Nat} (h : c ∈ hexs) (sn : Seen) : ∃ sn', accepts codeE 25 c sn = .ok (true, sn') := by
  simp only [hexs, List.mem_cons, List.not_mem_nil, or_false] at h
  rcases h with rfl | rfl | rfl | rfl | rfl | rfl | rfl <;> exact ⟨_, rfl⟩
section
variable {T : Array Nat} {n s : Nat} {b : Bool} {mk : Array (Option Nat)} {h : Nat} {sn : Seen}
def e1 (T : Array Nat) (n s : Nat) (b : Bool) (mk : Array (Option Nat)) (h : Nat) (sn : Seen) : M := { (onLit codeE T n s b mk h sn) with pc := 13, marks := mk.setIfInBounds 0 (some (s + 1)), lastmark := 0 }
theorem stepE1 : (onLit codeE T n s b mk h sn).step = e1 T n s b mk h (sn.add 17) := by
  rw [step_exec (m := onLit codeE T n s b mk h sn) rfl rfl (show 11 < 40 by decide)]
  rfl
def e2 (T : Array Nat) (n s : Nat) (b : Bool) (mk : Array (Option Nat)) (h : Nat) (sn : Seen) : M := { (e1 T n s b mk h sn) with pc := 25, pos := s + 2 }
theorem stepE2 (hn : s + 1 < n) (hc : T.getD (s + 1) 0 ∈ hexs) : ∃ sn', (e1 T n s b mk h sn).step = e2 T n s b mk h sn' := by
  obtain ⟨sn', e⟩ := acceptsE1 hc (sn.add 13)
  refine ⟨sn', ?_⟩
  rw [step_exec (m := e1 T n s b mk h sn) rfl rfl (show 13 < 40 by decide)]
  show (if s + 1 ≥ n then _ else (match accepts codeE 13 (T.getD (s + 1) 0) (sn.add 13) with | .error why => _ | .ok (false, seen) => _ | .ok (true, seen) => _)) = _
  rw [if_neg (by omega), e]
  rfl
def e3 (T : Array Nat) (n s : Nat) (b : Bool) (mk : Array (Option Nat)) (h : Nat) (sn : Seen) : M := { (e1 T n s b mk h sn) with pc := 37, pos := s + 3 }
theorem stepE3 (hn : s + 2 < n) (hc : T.getD (s + 2) 0 ∈ hexs) : ∃ sn', (e2 T n s b mk h sn).step = e3 T n s b mk h sn' := by
  obtain ⟨sn', e⟩ := acceptsE2 hc (sn.add 13)
  refine ⟨sn', ?_⟩
  rw [step_exec (m := e2 T n s b mk h sn) rfl rfl (show 25 < 40 by decide)]
  show (if s + 2 ≥ n then _ else (match accepts codeE 25 (T.getD (s + 2) 0) (sn.add 13) with | .error why => _ | .ok (false, seen) => _ | .ok (true, seen) => _)) = _
  rw [if_neg (by omega), e]
  rfl
def e4 (T : Array Nat) (n s : Nat) (b : Bool) (mk : Array (Option Nat)) (h : Nat) (sn : Seen) : M :=
  { (e1 T n s b mk h sn) with pc := 39, pos := s + 3, marks := (mk.setIfInBounds 0 (some (s + 1))).setIfInBounds 1 (some (s + 3)), lastmark := 1, lastindex := 1 }
theorem stepE4 : (e3 T n s b mk h sn).step = e4 T n s b mk h (sn.add 17) := by
  rw [step_exec (m := e3 T n s b mk h sn) rfl rfl (show 37 < 40 by decide)]
  show M.mark (e3 T n s b mk h (sn.add 17)) 1 = _
  unfold M.mark
  have : ((1 : Nat) : Int) ≤ (e3 T n s b mk h (sn.add 17)).lastmark + 1 := by show (1 : Int) ≤ 0 + 1; decide
  simp only [this, if_true]
  rfl
def e5 (T : Array Nat) (n s : Nat) (b : Bool) (mk : Array (Option Nat)) (h : Nat) (sn : Seen) : M := { (e4 T n s b mk h sn) with handed := s + 3, answer := some true }
theorem stepE5 : (e4 T n s b mk h sn).step = e5 T n s b mk h (sn.add 1) := by
  rw [step_exec (m := e4 T n s b mk h sn) rfl rfl (show 39 < 40 by decide)]
  cases b <;> rfl
def e6 (T : Array Nat) (n s : Nat) (b : Bool) (mk : Array (Option Nat)) (h : Nat) (sn : Seen) : M := { (e5 T n s b mk h sn) with pc := 9, pos := s, frames := [], weight := 0 }
theorem stepE6 : (e5 T n s b mk h sn).step = e6 T n s b mk h sn := by
  rw [step_pop (f := { wait := .nextStart, pc := 9, pos := s, outermost := b }) (rest := []) (yes := true) rfl rfl rfl, resume_start rfl]
  rfl
theorem foundE {P : M → Prop} (hn : s + 2 < n) (h0 : T.getD s 0 = 37) (h1 : T.getD (s + 1) 0 ∈ hexs) (h2 : T.getD (s + 2) 0 ∈ hexs) (hm : mk.size = 2)
    (hp : ∀ m : M, m.outcome = some .matched → m.start = s → m.handed = s + 3 → m.lastmark = 1 → m.marks.getD 0 none = some (s + 1) → m.marks.getD 1 none = some (s + 3) → P m) : Ends (stA codeE T n s b mk h sn) 8 P := by
  refine .step (k := 7) rfl (lit_yes hasLitE (by omega) h0) (.step (k := 6) rfl stepE1 ?_)
  obtain ⟨s2, q2⟩ := stepE2 (b := b) (mk := mk) (h := h) (sn := (sn.add 16).add 17) (by omega : s + 1 < n) h1
  obtain ⟨s3, q3⟩ := stepE3 (b := b) (mk := mk) (h := h) (sn := s2) hn h2
  refine .step (k := 5) rfl q2 (.step (k := 4) rfl q3 (.step (k := 3) rfl stepE4 (.step (k := 2) rfl stepE5 (.step (k := 1) rfl stepE6 (.step (k := 0) rfl (step_fin (yes := true) rfl rfl rfl) (.now rfl (hp _ rfl rfl rfl rfl ?_ ?_)))))))
  · show ((mk.setIfInBounds 0 (some (s + 1))).setIfInBounds 1 (some (s + 3))).getD 0 none = _
    simp [Array.getD, hm]
  · show ((mk.setIfInBounds 0 (some (s + 1))).setIfInBounds 1 (some (s + 3))).getD 1 none = _
    simp [Array.getD, hm]
end
end Mine
end

section
open PySem PySem.Sre
set_option maxRecDepth 100000
namespace Mine
theorem acceptsI (c : Nat) (sn : Seen) : ∃ sn', accepts codeI 15 c sn = .ok (isDigit c, sn') := by
  cases hd : isDigit c with
  | true =>
    refine ⟨(sn.add 8).add 55, ?_⟩
    have e : category 0 c = .ok true := by
      show (Except.ok (isDigit c) : Except String Bool).map (· != false) = _
      rw [hd]; rfl
    show (do if ← category 0 c then pure (true, (sn.add 8).add 55) else inSet codeI c 23 19 true ((sn.add 8).add 55) : Except String (Bool × Seen)) = _
    rw [e]
    rfl
  | false =>
    refine ⟨((sn.add 8).add 55).add 0, ?_⟩
    have e : category 0 c = .ok false := by
      show (Except.ok (isDigit c) : Except String Bool).map (· != false) = _
      rw [hd]; rfl
    show (do if ← category 0 c then pure (true, (sn.add 8).add 55) else inSet codeI c 23 19 true ((sn.add 8).add 55) : Except String (Bool × Seen)) = _
    rw [e]
    rfl
/-- d figures from p on, no more -/
theorem runI (T : Array Nat) : ∀ (d fuel p f : Nat) (sn : Seen), d ≤ fuel → (∀ j, j < d → isDigit (T.getD (p + j) 0) = true) → (d < fuel → isDigit (T.getD (p + d) 0) = false) → ∃ sn', Sre.run codeI T 15 fuel p f sn = .ok (f + d, sn')
  | 0, 0, p, f, sn, _, _, _ => ⟨sn, rfl⟩
  | 0, fuel + 1, p, f, sn, _, _, h => by
    obtain ⟨sn', e⟩ := acceptsI (T.getD p 0) sn
    have hd : isDigit (T.getD p 0) = false := by simpa using h (by omega)
    rw [hd] at e
    refine ⟨sn', ?_⟩
    unfold Sre.run
    rw [e]
    rfl
  | d + 1, 0, _, _, _, h, _, _ => absurd h (by omega)
  | d + 1, fuel + 1, p, f, sn, hf, hd, hn => by
    obtain ⟨s1, e⟩ := acceptsI (T.getD p 0) sn
    have h0 : isDigit (T.getD p 0) = true := by simpa using hd 0 (by omega)
    rw [h0] at e
    obtain ⟨s2, e2⟩ := runI T d fuel (p + 1) (f + 1) s1 (by omega) (fun j hj => by have := hd (j + 1) (by omega); rwa [show p + (j + 1) = p + 1 + j by omega] at this)
      (fun h => by have := hn (by omega); rwa [show p + (d + 1) = p + 1 + d by omega] at this)
    refine ⟨s2, ?_⟩
    unfold Sre.run
    rw [e]
    show Sre.run codeI T 15 fuel (p + 1) (f + 1) s1 = _
    rw [e2]
    congr 2
    omega
def atEnd (T : Array Nat) (n p : Nat) : Bool := p == n || (p + 1 == n && T.getD p 0 == 10)
section
variable {T : Array Nat} {n s : Nat} {b : Bool} {mk : Array (Option Nat)} {h : Nat} {sn : Seen}
/-- behind the figures, q the place, c how many -/
def i1 (T : Array Nat) (n s : Nat) (b : Bool) (mk : Array (Option Nat)) (c : Int) (q : Nat) (sn : Seen) : M :=
  { (onLit codeI T n s b mk q sn) with pc := 21, pos := q, weight := 2, frames := [{ wait := .giveBack, pc := 11, pos := q, outermost := b, count := c, kept := { lastmark := -1, lastindex := -1, whole := false, marks := #[] } }, { wait := .nextStart, pc := 9, pos := s, outermost := b }] }
theorem stepI1 {d : Nat} (hd : 1 ≤ d) (hle : s + 1 + d ≤ n) (hn : n ≤ 1000000) (hs : ∀ j, j < d → isDigit (T.getD (s + 1 + j) 0) = true) (he : s + 1 + d < n → isDigit (T.getD (s + 1 + d) 0) = false) :
    ∃ sn', (onLit codeI T n s b mk h sn).step = i1 T n s b mk d (s + 1 + d) sn' := by
  obtain ⟨s2, e⟩ := runI T d (n - (s + 1)) (s + 1) 0 ((sn.add 24).add 13) (by omega) hs (fun hx => he (by omega))
  refine ⟨s2, ?_⟩
  rw [step_exec (m := onLit codeI T n s b mk h sn) rfl rfl (show 11 < 24 by decide)]
  have hroom : ((n : Int) - ((s + 1 : Nat) : Int)).toNat = n - (s + 1) := by omega
  show (if ((1 : Nat) : Int) > (n : Int) - ((s + 1 : Nat) : Int) then _ else
    match Sre.run codeI T 15 (min 4294967295 ((n : Int) - ((s + 1 : Nat) : Int)).toNat) (s + 1) 0 ((sn.add 24).add 13) with | .error why => _ | .ok (k, seen) => _) = _
  rw [if_neg (by omega), hroom, Nat.min_eq_right (by omega), e, Nat.zero_add]
  show (if d < 1 then _ else _) = _
  rw [if_neg (by omega)]
  rfl
theorem stepI0 (hle : s + 1 ≤ n) (hn : n ≤ 1000000) (he : s + 1 < n → isDigit (T.getD (s + 1) 0) = false) :
    ∃ sn', (onLit codeI T n s b mk h sn).step = { (onLit codeI T n s b mk h sn') with answer := some false } := by
  by_cases hx : s + 1 < n
  · obtain ⟨s2, e⟩ := runI T 0 (n - (s + 1)) (s + 1) 0 ((sn.add 24).add 13) (by omega) (fun j hj => by omega) (fun _ => he hx)
    refine ⟨s2, ?_⟩
    rw [step_exec (m := onLit codeI T n s b mk h sn) rfl rfl (show 11 < 24 by decide)]
    have hroom : ((n : Int) - ((s + 1 : Nat) : Int)).toNat = n - (s + 1) := by omega
    show (if ((1 : Nat) : Int) > (n : Int) - ((s + 1 : Nat) : Int) then _ else
      match Sre.run codeI T 15 (min 4294967295 ((n : Int) - ((s + 1 : Nat) : Int)).toNat) (s + 1) 0 ((sn.add 24).add 13) with | .error why => _ | .ok (k, seen) => _) = _
    rw [if_neg (by omega), hroom, Nat.min_eq_right (by omega), e]
    rfl
  · refine ⟨sn.add 24, ?_⟩
    rw [step_exec (m := onLit codeI T n s b mk h sn) rfl rfl (show 11 < 24 by decide)]
    show (if ((1 : Nat) : Int) > (n : Int) - ((s + 1 : Nat) : Int) then _ else
      match Sre.run codeI T 15 (min 4294967295 ((n : Int) - ((s + 1 : Nat) : Int)).toNat) (s + 1) 0 ((sn.add 24).add 13) with | .error why => _ | .ok (k, seen) => _) = _
    rw [if_pos (by omega)]
    rfl
def i2 (T : Array Nat) (n s : Nat) (b : Bool) (mk : Array (Option Nat)) (c : Int) (q : Nat) (sn : Seen) : M := { (i1 T n s b mk c q sn) with pc := 23 }
theorem stepI2 {c : Int} {q : Nat} : (i1 T n s b mk c q sn).step = if atEnd T n q = true then i2 T n s b mk c q ((sn.add 6).add 48) else { (i1 T n s b mk c q ((sn.add 6).add 48)) with answer := some false } := by
  rw [step_exec (m := i1 T n s b mk c q sn) rfl rfl (show 21 < 24 by decide)]
  rfl
theorem endI2 {c : Int} {q : Nat} {P : M → Prop} (hp : ∀ m : M, m.outcome = some .matched → m.start = s → m.handed = q → m.lastmark = -1 → P m) : Ends (i2 T n s b mk c q sn) 4 P := by
  have x1 : (i2 T n s b mk c q sn).step = { (i2 T n s b mk c q (sn.add 1)) with handed := q, answer := some true } := by
    rw [step_exec (m := i2 T n s b mk c q sn) rfl rfl (show 23 < 24 by decide)]
    cases b <;> rfl
  refine .step (k := 3) rfl x1 (.step (k := 2) rfl (step_pop (yes := true) rfl rfl rfl) ?_)
  refine .step (k := 1) rfl (step_pop (f := { wait := .nextStart, pc := 9, pos := s, outermost := b }) (rest := []) (yes := true) rfl rfl rfl) ?_
  rw [resume_start rfl]
  exact .step (k := 0) rfl (step_fin (yes := true) rfl rfl rfl) (.now rfl (hp _ rfl rfl rfl rfl))
/-- where no end is behind the figures, nor ahead of one of them, the next place is tried -/
theorem backI {P : M → Prop} {k : Nat} (hs : s < n) (next : ∀ sn', Ends (stA codeI T n (s + 1) false mk (s + 1) sn') k P) :
    ∀ (d : Nat) (sn : Seen), 1 ≤ d → (∀ j, 1 ≤ j → j ≤ d → atEnd T n (s + 1 + j) = false) → Ends (i1 T n s b mk d (s + 1 + d) sn) (k + 2 + 2 * d) P
  | 0, _, h, _ => absurd h (by omega)
  | 1, sn, _, he => by
    have h1 := he 1 (Nat.le_refl _) (Nat.le_refl _)
    refine .step (k := k + 3) rfl (by rw [stepI2, h1, if_neg (by decide)]) ?_
    refine .step (k := k + 2) rfl (step_pop (yes := false) rfl rfl rfl) ?_
    refine .step (k := k + 1) rfl (step_pop (f := { wait := .nextStart, pc := 9, pos := s, outermost := b }) (rest := []) (yes := false) rfl rfl rfl) ?_
    rw [resume_start rfl, if_neg (by decide)]
    show Ends (if s < n then _ else _) _ _
    rw [if_pos hs]
    exact (next _).mono (Nat.le_succ _)
  | d + 2, sn, _, he => by
    have h1 := he (d + 2) (by omega) (Nat.le_refl _)
    refine Ends.mono (k := (k + 2 + 2 * (d + 1)) + 1 + 1) (.step (k := (k + 2 + 2 * (d + 1)) + 1) rfl (by rw [stepI2, h1, if_neg (by decide)]) ?_) (by omega)
    refine .step (k := k + 2 + 2 * (d + 1)) rfl (step_pop (yes := false) rfl rfl rfl) ?_
    have := backI hs next (d + 1) ((sn.add 6).add 48) (by omega) fun j h1 h2 => he j h1 (by omega)
    have hc : ¬ ((((d + 2 : Nat) : Int)) - 1 < ((1 : Nat) : Int)) := by omega
    show Ends (if (((d + 2 : Nat) : Int)) - 1 < ((1 : Nat) : Int) then _ else _) _ _
    rw [if_neg hc]
    have e1 : (((d + 2 : Nat) : Int)) - 1 = ((d + 1 : Nat) : Int) := by omega
    have e2 : s + 1 + (d + 2) - 1 = s + 1 + (d + 1) := by omega
    rw [e1]
    have e3 : (i1 T n s b mk ((d + 1 : Nat) : Int) (s + 1 + (d + 2) - 1) ((sn.add 6).add 48)) = i1 T n s b mk ((d + 1 : Nat) : Int) (s + 1 + (d + 1)) ((sn.add 6).add 48) := by rw [e2]
    rw [← e3] at this
    exact this
/-- how many figures stand from p on -/
def digs (T : Array Nat) : Nat → Nat → Nat
  | 0, _ => 0
  | f + 1, p => if isDigit (T.getD p 0) then digs T f (p + 1) + 1 else 0
theorem digs_le (T : Array Nat) : ∀ f p, digs T f p ≤ f
  | 0, _ => Nat.le_refl _
  | f + 1, p => by
    unfold digs
    have := digs_le T f (p + 1)
    split <;> omega
theorem digs_in (T : Array Nat) : ∀ f p j, j < digs T f p → isDigit (T.getD (p + j) 0) = true
  | 0, _, _, h => absurd h (Nat.not_lt_zero _)
  | f + 1, p, j, h => by
    unfold digs at h
    by_cases hd : isDigit (T.getD p 0) = true
    · rw [if_pos hd] at h
      cases j with
      | zero => exact hd
      | succ j =>
        have := digs_in T f (p + 1) j (by omega)
        rwa [show p + (j + 1) = p + 1 + j by omega]
    · rw [if_neg hd] at h; omega
theorem digs_out (T : Array Nat) : ∀ f p, digs T f p < f → isDigit (T.getD (p + digs T f p) 0) = false
  | 0, _, h => absurd h (Nat.not_lt_zero _)
  | f + 1, p, h => by
    by_cases hd : isDigit (T.getD p 0) = true
    · have e : digs T (f + 1) p = digs T f (p + 1) + 1 := by
        show (if isDigit (T.getD p 0) = true then _ else _) = _
        rw [if_pos hd]
      rw [e] at h ⊢
      have := digs_out T f (p + 1) (by omega)
      rwa [show p + (digs T f (p + 1) + 1) = p + 1 + digs T f (p + 1) by omega]
    · have e : digs T (f + 1) p = 0 := by
        show (if isDigit (T.getD p 0) = true then _ else _) = _
        rw [if_neg hd]
      rw [e]
      simpa using hd
def hitB (T : Array Nat) (n s : Nat) : Bool := T.getD s 0 == 46 && (decide (1 ≤ digs T (n - (s + 1)) (s + 1)) && atEnd T n (s + 1 + digs T (n - (s + 1)) (s + 1)))
def anyHit (T : Array Nat) (n : Nat) : Nat → Nat → Bool
  | 0, _ => false
  | f + 1, s => hitB T n s || anyHit T n f (s + 1)
theorem digit_not10 {c : Nat} (h : isDigit c = true) : (c == 10) = false := by
  unfold isDigit at h
  simp at h ⊢
  omega
theorem searchI {P : M → Prop} (hn : n ≤ 1000000) : ∀ (f s : Nat) (b : Bool) (mk : Array (Option Nat)) (h : Nat) (sn : Seen), s + f = n →
    (∀ m : M, m.outcome = (if anyHit T n f s then some .matched else some .failed) → (anyHit T n f s = true → m.lastmark = -1) → P m) → Ends (stA codeI T n s b mk h sn) (f * 3000000 + 3) P
  | 0, s, b, mk, h, sn, hf, hp => (at_end hasLitI (by omega) fun m ho => hp m ho (by simp [anyHit])).mono (by omega)
  | f + 1, s, b, mk, h, sn, hf, hp => by
    have hs : s < n := by omega
    by_cases hc : T.getD s 0 = 46
    · have hdl := digs_le T (n - (s + 1)) (s + 1)
      have hdi := digs_in T (n - (s + 1)) (s + 1)
      have hdo := digs_out T (n - (s + 1)) (s + 1)
      have hh : hitB T n s = (decide (1 ≤ digs T (n - (s + 1)) (s + 1)) && atEnd T n (s + 1 + digs T (n - (s + 1)) (s + 1))) := by
        unfold hitB; rw [hc]; rfl
      generalize hd : digs T (n - (s + 1)) (s + 1) = d at hdl hdi hdo hh
      by_cases h1 : 1 ≤ d
      · obtain ⟨s2, q2⟩ := stepI1 (b := b) (mk := mk) (h := h) (sn := sn.add 16) h1 (by omega) hn hdi (fun hx => hdo (by omega))
        have one : ∀ k, Ends (i1 T n s b mk d (s + 1 + d) s2) k P → Ends (stA codeI T n s b mk h sn) (k + 2) P := fun k x =>
          .step (k := k + 1) rfl (lit_yes hasLitI hs hc) (.step rfl q2 x)
        cases ha : atEnd T n (s + 1 + d) with
        | true =>
          refine (one 5 ?_).mono (by omega)
          refine .step (k := 4) rfl (by rw [stepI2, ha, if_pos rfl]) (endI2 fun m ho _ _ hl => hp m ?_ fun _ => hl)
          rw [ho]
          simp [anyHit, hh, h1, ha]
        | false =>
          have hno : hitB T n s = false := by rw [hh, ha]; simp
          refine (one (f * 3000000 + 3 + 2 + 2 * d) ?_).mono (by omega)
          refine backI hs (fun sn' => searchI hn f (s + 1) false mk (s + 1) sn' (by omega) fun m ho hl => hp m (by simpa [anyHit, hno] using ho) (by simpa [anyHit, hno] using hl)) d s2 h1 fun j hj1 hj2 => ?_
          by_cases hj : j = d
          · rw [hj]; exact ha
          · have := hdi j (by omega)
            unfold atEnd
            rw [digit_not10 this]
            simp; omega
      · have hd0 : d = 0 := by omega
        obtain ⟨s2, q2⟩ := stepI0 (b := b) (mk := mk) (h := h) (sn := sn.add 16) (by omega : s + 1 ≤ n) hn (fun hx => by have := hdo (by omega); rwa [hd0] at this)
        have hno : hitB T n s = false := by rw [hh]; simp [hd0]
        have three : ∀ K, Ends (stA codeI T n (s + 1) false mk (s + 1) s2) K P → Ends (stA codeI T n s b mk h sn) (K + 3) P := fun K x => by
          refine .step (k := K + 2) rfl (lit_yes hasLitI hs hc) (.step (k := K + 1) rfl q2 (.step (k := K) rfl (step_pop (f := { wait := .nextStart, pc := 9, pos := s, outermost := b }) (rest := []) (yes := false) rfl rfl rfl) ?_))
          rw [resume_start rfl, if_neg (by decide)]
          show Ends (if s < n then _ else _) _ _
          rw [if_pos hs]
          exact x
        exact (three _ (searchI hn f (s + 1) false mk (s + 1) s2 (by omega) fun m ho hl => hp m (by simpa [anyHit, hno] using ho) (by simpa [anyHit, hno] using hl))).mono (by omega)
    · have hno : hitB T n s = false := by unfold hitB; rw [beq_false_of_ne hc]; rfl
      exact (skip hasLitI hs hc fun sn' => searchI hn f (s + 1) false mk (s + 1) sn' (by omega) fun m ho hl => hp m (by simpa [anyHit, hno] using ho) (by simpa [anyHit, hno] using hl)).mono (by omega)
end
end Mine
end

section
open PySem PySem.W PyProof.Rows PySem.Calls
open AutoSeq1 (wpAny_loadPart')
set_option Elab.async false
set_option maxRecDepth 100000
namespace Mine
section
variable {prog : Program} {w : World} {A : Around} {E : Value → Shared → Prop} {s : Shared}
theorem nextOf_tup_item {it t : Addr} {i : Nat} {items : Array Value} {x : Value} {Q : Value → Shared → Prop} (hit : s.heap.IsTupleIter it t i) (ht : s.heap.IsTuple t items) (hx : items[i]? = some x)
    (hQ : ∀ h', h'.IsTupleIter it t (i + 1) → Heap.SameBut it s.heap h' → Q x { s with heap := h' }) : wpAny (model prog w) A (Builtin.SmallTypes.nextOf (.ref it)) Q E s := by
  obtain ⟨o, ho, hc, hd⟩ := id hit
  obtain ⟨ol, hol, _, nl, hdl⟩ := ht
  unfold Builtin.SmallTypes.nextOf
  refine wpAny_bind (wpAny_callSpecial?_slot (name := Str.ofString "__next__") hit.typeIs PySem.F.slot_tuple_iterator_next
    (wpAny_call_entry PySem.F.slot_tuple_iterator_next hit.typeIs PySem.F.entry_tuple_iterator_next ?_ (PySem.F.args_tuple_iterator_next_1 _)))
  show wpAny _ _ (field (.ref it) 0 >>= _) _ _ s
  refine wpAny_bind (wpAny_field ho hd (x := .ref t) rfl ?_)
  show wpAny _ _ (if (Value.ref t == Value.none) = true then _ else _) _ _ s
  rw [if_neg (show ¬ ((Value.ref t == Value.none) = true) from Bool.false_ne_true)]
  show wpAny _ _ (field (.ref it) 1 >>= _) _ _ s
  refine wpAny_bind (wpAny_field ho hd (x := .int i 0) rfl ?_)
  show wpAny _ _ (seqItems? (.ref t) >>= _) _ _ s
  refine wpAny_bind (wpAny_seqItems hol hdl ?_)
  simp only [Int.toNat_natCast, hx]
  refine wpAny_bind (wpAny_setField ho hd (by simp) (wpAny_pure ⟨x, rfl, wpAny_pure (hQ _ ?_ (Heap.SameBut.update ..))⟩))
  exact ⟨_, Heap.get?_update_self _ ho (Obj.isFreed_of_fields (Obj.data_mapFields hd _)), (Obj.cls_mapFields ..).trans hc, by
    rw [Obj.data_mapFields hd]; simp [rawInt]⟩
theorem nextOf_tup_end {it t : Addr} {i : Nat} {items : Array Value} {Q : Value → Shared → Prop} (hh : A.handled = none) (hit : s.heap.IsTupleIter it t i) (ht : s.heap.IsTuple t items) (hx : items[i]? = none)
    (hE : ∀ h' e, Heap.ExtBut it s.heap h' → (∃ o, h'.get? e = some o ∧ o.cls = .type "StopIteration") → E (.ref e) { s with heap := h' }) : wpAny (model prog w) A (Builtin.SmallTypes.nextOf (.ref it)) Q E s := by
  obtain ⟨o, ho, hc, hd⟩ := id hit
  obtain ⟨ol, hol, _, nl, hdl⟩ := ht
  unfold Builtin.SmallTypes.nextOf
  refine wpAny_bind (wpAny_callSpecial?_slot (name := Str.ofString "__next__") hit.typeIs PySem.F.slot_tuple_iterator_next
    (wpAny_call_entry PySem.F.slot_tuple_iterator_next hit.typeIs PySem.F.entry_tuple_iterator_next ?_ (PySem.F.args_tuple_iterator_next_1 _)))
  show wpAny _ _ (field (.ref it) 0 >>= _) _ _ s
  refine wpAny_bind (wpAny_field ho hd (x := .ref t) rfl ?_)
  show wpAny _ _ (if (Value.ref t == Value.none) = true then _ else _) _ _ s
  rw [if_neg (show ¬ ((Value.ref t == Value.none) = true) from Bool.false_ne_true)]
  show wpAny _ _ (field (.ref it) 1 >>= _) _ _ s
  refine wpAny_bind (wpAny_field ho hd (x := .int i 0) rfl ?_)
  show wpAny _ _ (seqItems? (.ref t) >>= _) _ _ s
  refine wpAny_bind (wpAny_seqItems hol hdl ?_)
  simp only [Int.toNat_natCast, hx]
  refine wpAny_bind (wpAny_rule (wpAny_bind (wpAny_setField ho hd (by simp) ?_)))
  show wpAny _ _ (newExc (.type "StopIteration") [] >>= _) _ _ _
  refine wpAny_bind ?_
  simp only [newExc, newTuple]
  refine wpAny_bind (wpAny_newObj_type ?_ (by size_fits))
  refine wpAny_bind (m := firstArgMember _ _) (wpAny_of_eq (a := Value.none) (by first | rfl | (simp only [firstArgMember]; rfl)) ?_)
  refine wpAny_newObj_type ?_ (by size_fits)
  simp only [raiseNew]
  refine wpAny_bind (wpAny_handled ?_)
  first | rw [show A.in1.handled = none from hh] | rw [hh]
  refine wpAny_bind (wpAny_pure (wpAny_throw ?_))
  exact hE _ _ (((Heap.SameBut.update ..).extBut.push _).push _) ⟨_, Heap.get?_push_size _ rfl, rfl⟩
end
theorem drawsTup {prog : Program} {w : World} {A : Around} (hh : A.handled = none) (it t : Addr) (hne : t ≠ it) (items : Array Value) :
    Draws prog w A it [it, t] items.size (fun i v => items[i]? = some v) (fun i h => h.IsTupleIter it t i ∧ h.IsTuple t items) where
  live := fun _ _ st => let ⟨o, ho, _⟩ := st.1; ⟨o, ho⟩
  frame := fun _ _ _ st hk => ⟨let ⟨o, ho, r⟩ := st.1; ⟨o, hk it (by simp) o ho, r⟩, let ⟨o, ho, r⟩ := st.2; ⟨o, hk t (by simp) o ho, r⟩⟩
  item := fun i s Q E hi st hQ => by
    refine nextOf_tup_item st.1 st.2 (x := items[i]) (by simp [hi]) fun h' hit' hs' => ?_
    exact hQ _ h' s.toks (by simp [hi]) ⟨hit', st.2.extBut hs'.extBut hne⟩ hs'
  done := fun s Q E st hE => nextOf_tup_end hh st.1 st.2 (by simp) hE

theorem enum_newT (l : Addr) (items : Array Value) (n : Nat) (dct : Option Addr) (sl : Array (Option Value)) :
    Meets (Builtin.«enumerate.__new__» ⟨[.type "enumerate", .ref l], []⟩) (fun _ R s => s.heap.get? l = some { cls := .type "tuple", dict := dct, data := .seq items n, slots := sl } ∧
      R (.ok (.ret (.ref (s.heap.push { cls := .type "tuple_iterator", data := .fields #[.ref l, .int 0 0] }).objs.size)))
        { s with heap := (s.heap.push { cls := .type "tuple_iterator", data := .fields #[.ref l, .int 0 0] }).push { cls := .type "enumerate", data := .fields #[.none, .bool false, .ref s.heap.objs.size, rawInt 0, .none, .none] } }) :=
  .of_wp fun prog w A R s h => by
    obtain ⟨hp, g, d, tk, os⟩ := s; obtain ⟨hl, h⟩ := h
    have hsub := sub_enumerate
    have hL : Heap.IsTuple (Shared.heap ⟨hp, g, d, tk, os⟩) l items := ⟨_, hl, rfl, n, rfl⟩
    wp_walk using wpAny_loadPart' hl
    refine wpAny_stack_any fun st => wpAny_pure ?_
    split
    · rename_i c _ _ _ _ _
      cases (c == Value.type "enumerate")
      · wp_walk using wpAny_loadPart' hl, wpAny_pyIter_tuple hL
        exact ⟨_, rfl, h⟩
      · wp_walk using wpAny_loadPart' hl, wpAny_pyIter_tuple hL
        exact ⟨_, rfl, h⟩
    · wp_walk using wpAny_loadPart' hl, wpAny_pyIter_tuple hL
      exact ⟨_, rfl, h⟩
section
variable {prog : Program} {w : World} {A : Around} {E : Value → Shared → Prop} {s : Shared} {h₀ : Heap} {L : Addr} {m : Str → Option Value} {news : List (Addr × Obj)}
theorem call_enumerate_tup {l : Addr} {items : Array Value} {Q : Value → Shared → Prop} (hL : s.heap.IsTuple l items)
    (h : ∀ h', IsEnum h' (s.heap.objs.size + 1) s.heap.objs.size 0 .none → h'.IsTupleIter s.heap.objs.size l 0 → h'.objs.size = s.heap.objs.size + 2 →
      (∀ b o, s.heap.get? b = some o → h'.get? b = some o) → Q (.ref (s.heap.objs.size + 1)) { s with heap := h' }) :
    wpAny (model prog w) A (call (.type "enumerate") [.ref l]) Q E s := by
  obtain ⟨⟨c, dct, dt, sl⟩, hl, hc, n, hd⟩ := hL
  replace hc : c = .type "tuple" := hc
  replace hd : dt = .seq items n := hd
  subst hc hd
  refine callType_new PySem.F.called_enumerate (by decide) (PySem.F.typeCall_enumerate_1 _) (PySem.F.newCall_enumerate_1 _) (fun obj => PySem.F.args_object_init_2 obj _) PySem.F.entry_enumerate_new
    (enum_newT l items n dct sl) ⟨hl, ?_⟩
  have hz : (s.heap.push { cls := .type "tuple_iterator", data := .fields #[.ref l, .int 0 0] }).objs.size = s.heap.objs.size + 1 := Heap.size_push ..
  show _ ∧ _
  rw [hz]
  have he : IsEnum ((s.heap.push { cls := .type "tuple_iterator", data := .fields #[.ref l, .int 0 0] }).push
      { cls := .type "enumerate", data := .fields #[.none, .bool false, .ref s.heap.objs.size, rawInt 0, .none, .none] }) (s.heap.objs.size + 1) s.heap.objs.size 0 .none := by
    have := Heap.get?_push_size (s.heap.push { cls := .type "tuple_iterator", data := .fields #[.ref l, .int 0 0] })
      (o := { cls := .type "enumerate", data := .fields #[.none, .bool false, .ref s.heap.objs.size, rawInt 0, .none, .none] }) rfl
    rw [hz] at this; exact this
  refine ⟨⟨_, he, rfl⟩, h _ he ⟨_, Heap.get?_push_of_some _ (Heap.get?_push_size _ rfl), rfl, rfl⟩ (by rw [Heap.size_push, hz]) fun b o x => Heap.get?_push_of_some _ (Heap.get?_push_of_some _ x)⟩

theorem call_enum_tup {α : Type} {K : ItemKind α} {as : List α} {l : Addr} {vs : List Value} {Q : Value → Shared → Prop} (hh : A.handled = none) (hl : IsTup h₀ l vs.toArray) (hi : AreOf K vs as)
    (F : Fr h₀ L s.heap m) (N : News h₀ L s.heap news)
    (h : ∀ h' e, Fr h₀ L h' m → News h₀ L h' news → PairSrcL prog w A E h₀ L K as (.ref e) { s with heap := h' } m news → Q (.ref e) { s with heap := h' }) :
    wpAny (model prog w) A (call (.type "enumerate") [.ref l]) Q E s := by
  obtain ⟨ol, hol, hor⟩ := id hl
  have hls : s.heap.IsTuple l vs.toArray := ⟨ol, F.keep _ _ hol, hor⟩
  have hlt : l < h₀.objs.size := Heap.lt_size hol
  have hLs : L < s.heap.objs.size := F.ns.lt
  have hab : h₀.objs.size ≤ L := F.above
  refine call_enumerate_tup hls fun h' he hit hsz hk => ?_
  have F' : Fr h₀ L h' m := ⟨F.ns.keeps hk, fun b o e => hk b o (F.keep b o e), F.above⟩
  have N' : News h₀ L h' news := fun p hp => ⟨hk _ _ (N p hp).1, (N p hp).2⟩
  refine h h' _ F' N' fun env hL => ?_
  subst hL
  have hl2 : l < s.heap.objs.size := Nat.lt_trans (Nat.lt_of_lt_of_le hlt hab) hLs
  have ht' : h'.IsTuple l vs.toArray := let ⟨o, ho, r⟩ := hls; ⟨o, hk _ _ ho, r⟩
  refine enumSrc (drawsTup (A := A.in1) hh s.heap.objs.size l (Nat.ne_of_lt hl2) vs.toArray) he ⟨hit, ht'⟩ (Nat.succ_ne_self _) ?_ (by simp) ?_
    (Heap.get?_none_of_le (Nat.le_trans hab (Nat.le_of_lt (Nat.lt_succ_of_lt hLs)))) (Heap.get?_none_of_le (Nat.le_trans hab (Nat.le_of_lt hLs))) ?_ (by simp [hi.length]) (fun i x hx => hi.get i x (by simpa using hx)) F' N'
  · intro hm
    rcases List.mem_cons.mp hm with e | hm
    · exact Nat.succ_ne_self _ e
    · exact Nat.ne_of_gt (Nat.lt_succ_of_lt hl2) (List.mem_singleton.mp hm)
  · intro hm
    rcases List.mem_cons.mp hm with e | hm
    · exact Nat.ne_of_lt (Nat.lt_succ_of_lt hLs) e
    · rcases List.mem_cons.mp hm with e | hm
      · exact Nat.ne_of_lt hLs e
      · exact Nat.ne_of_gt (Nat.lt_of_lt_of_le hlt hab) (List.mem_singleton.mp hm)
  · intro b hb q hq e
    have hq1 : q.1 < s.heap.objs.size := Heap.lt_size (N q hq).1
    rcases List.mem_cons.mp hb with e1 | hb
    · exact Nat.ne_of_gt (Nat.lt_succ_of_lt hq1) (e1.symm.trans e)
    · rcases List.mem_cons.mp hb with e1 | hb
      · exact Nat.ne_of_gt hq1 (e1.symm.trans e)
      · have e2 := List.mem_singleton.mp hb
        have hn := (N q hq).2.2
        rw [← e, e2, hol] at hn
        cases hn
end
end Mine
end

section
open PySem PySem.W PyProof.Rows PySem.Calls
set_option Elab.async false
set_option maxRecDepth 100000
namespace Mine
theorem adjust_upto (a n : Nat) : Builtin.Slice.sliceAdjust none (some (a : Int)) 1 (n : Int) = (0, ((min a n : Nat) : Int)) := by
  unfold Builtin.Slice.sliceAdjust
  have h1 : ¬ ((1 : Int) < 0) := by omega
  have h2 : ¬ ((a : Int) < 0) := by omega
  simp only [h1, h2, if_false]
  congr 1
  omega
theorem places_upto (a n : Nat) : Builtin.Slice.slicePlaces 0 ((min a n : Nat) : Int) 1 = min a n := by
  unfold Builtin.Slice.slicePlaces
  have h1 : (1 : Int) > 0 := by omega
  simp only [h1, if_true, Int.ediv_one]
  split <;> omega
section
variable {prog : Program} {w : World} {A : Around} {E : Value → Shared → Prop} {s : Shared} {h₀ : Heap} {L : Addr} {m : Str → Option Value} {news : List (Addr × Obj)}
theorem applied_upto {sl : Addr} {a n : Nat} {u : Tok} {Q : Int × Int × Nat → Shared → Prop} (hs : s.heap.IsSliceOf sl .none (.int a u) .none) (h : Q (0, 1, min a n) s) :
    wpAny (model prog w) A (Builtin.Slice.sliceApplied (.ref sl) (pure (n : Int))) Q E s := by
  obtain ⟨os, hos, hcs, hds⟩ := id hs
  unfold Builtin.Slice.sliceApplied Builtin.Slice.sliceFields
  refine wpAny_bind (wpAny_bind (wpAny_field hos hds (x := .none) rfl (wpAny_bind (wpAny_field hos hds (x := .int a u) rfl (wpAny_bind (wpAny_field hos hds (x := .none) rfl (wpAny_pure ?_)))))))
  refine wpAny_bind (slicePart_none ?_)
  show wpAny _ _ (if ((1 : Int) == 0) = true then _ else _) _ _ s
  rw [if_neg (by decide)]
  refine wpAny_bind (slicePart_none (wpAny_bind (slicePart_int (wpAny_bind (wpAny_pure ?_)))))
  show wpAny _ _ (match Builtin.Slice.sliceAdjust none (some (a : Int)) 1 (n : Int) with | (lo, hi) => pure (lo, (1 : Int), Builtin.Slice.slicePlaces lo hi 1)) _ _ s
  rw [adjust_upto a n]
  show wpAny _ _ (pure ((0 : Int), (1 : Int), Builtin.Slice.slicePlaces 0 ((min a n : Nat) : Int) 1)) _ _ s
  rw [places_upto a n]
  exact wpAny_pure h
theorem pick_upto (xs : Array Value) (n : Nat) (hn : n ≤ xs.size) : ((List.range n).filterMap fun (k : Nat) => xs[((0 : Int) + (k : Int) * 1).toNat]?).toArray = (xs.toList.take n).toArray := by
  have e : (fun (k : Nat) => xs[((0 : Int) + (k : Int) * 1).toNat]?) = fun k => xs[0 + k]? := by
    funext k
    have : ((0 : Int) + (k : Int) * 1).toNat = 0 + k := by omega
    rw [this]
  rw [e]
  have := pick_run xs 0 n
  rw [List.filterMap_map] at this
  have e2 : ((fun x => xs[x]?) ∘ fun x => 0 + x) = fun k => xs[0 + k]? := rfl
  rw [e2] at this
  rw [this, List.drop_zero]
theorem getItem_upto {t sl : Addr} {vs : List Value} {a : Nat} {u : Tok} {Q : Value → Shared → Prop} (ht : IsTup s.heap t vs.toArray) (hs : s.heap.IsSliceOf sl .none (.int a u) .none) (hsz : vs.length ≤ sizeLine)
    (hw : vs.length ≤ a → Q (.ref t) s)
    (hn : a < vs.length → Q (.ref s.heap.objs.size) { s with heap := s.heap.push { cls := .type "tuple", data := .seq (vs.take a).toArray } }) : wpAny (model prog w) A (getItem (.ref t) (.ref sl)) Q E s := by
  obtain ⟨os, hos, hcs, hds⟩ := id hs
  have hTs : s.TypeIs (.ref sl) "slice" := ⟨os, hos, hcs⟩
  unfold getItem
  try with_reducible refine wpAny_holding ?_
  first | refine wpAny_bind (wpAny_pure ?_) | skip
  refine wpAny_bind (wpAny_sequenceKey ht.typeIs (by decide) ?_)
  refine wpAny_bind (wpAny_callSpecial?_slot (name := Str.ofString "__getitem__") ht.typeIs slot_tuple_getitem
    (wpAny_call_entry slot_tuple_getitem ht.typeIs entry_tuple_getitem ?_ (args_tuple_getitem _ _)))
  show wpAny _ _ (Builtin.Tuple.tupleItemsOf (.ref t) >>= _) _ _ s
  refine wpAny_bind (tupleItemsOf_ ht ?_)
  refine wpAny_bind (wpAny_typeOf hTs ?_)
  rw [if_pos (by decide)]
  refine wpAny_bind (applied_upto hs ?_)
  show wpAny _ _ (if ((0 : Int) == 0 && (1 : Int) == 1 && (min a vs.toArray.size) == vs.toArray.size) = true then _ else _) _ _ s
  have hm : (min a vs.toArray.size) = min a vs.length := by rw [List.size_toArray]
  by_cases hlt : a < vs.length
  · have hno : ¬ (((0 : Int) == 0 && (1 : Int) == 1 && (min a vs.toArray.size) == vs.toArray.size) = true) := by
      rw [hm]; simp; omega
    rw [if_neg hno, pick_upto _ _ (Nat.min_le_right ..), hm, Nat.min_eq_left (Nat.le_of_lt hlt)]
    have hdrop : sizeOk (.seq (vs.take a).toArray) := by
      show (vs.take a).toArray.size ≤ sizeLine
      rw [List.size_toArray, List.length_take]
      omega
    have h := hn hlt
    first
      | exact wpAny_bind (m := Builtin.Tuple.tupleExact _) (wpAny_newObj_type (wpAny_pure ⟨_, rfl, wpAny_pure h⟩) hdrop)
      | exact wpAny_bind (m := Builtin.Tuple.tupleExact _) (wpAny_newObj_type (wpAny_bind (wpAny_pure (wpAny_pure ⟨_, rfl, wpAny_pure h⟩))) hdrop)
      | exact wpAny_bind (wpAny_bind (m := Builtin.Tuple.tupleExact _) (wpAny_newObj_type (wpAny_pure (wpAny_pure ⟨_, rfl, wpAny_pure h⟩)) hdrop))
      | exact wpAny_bind (wpAny_bind (m := Builtin.Tuple.tupleExact _) (wpAny_newObj_type (wpAny_pure ⟨_, rfl, wpAny_pure h⟩) hdrop))
  · have hyes : (((0 : Int) == 0 && (1 : Int) == 1 && (min a vs.toArray.size) == vs.toArray.size) = true) := by
      rw [hm]; simp; omega
    rw [if_pos hyes]
    have h := hw (by omega)
    refine wpAny_bind ?_
    unfold Builtin.Tuple.tupleIsExact
    refine wpAny_bind (wpAny_typeOf ht.typeIs (wpAny_pure ?_))
    rw [if_pos (by decide)]
    exact wpAny_bind (wpAny_rule (wpAny_pure ⟨_, rfl, wpAny_pure h⟩))
/-- t[:a] of a tuple: the very tuple when a is not below its length, else a new one -/
theorem slice_upto {value slice : PySem.Expr} {t : Addr} {vs : List Value} {a : Nat} {u : Tok} {Q : Value → Shared → Prop} (F : Fr h₀ L s.heap m) (N : News h₀ L s.heap news) (ht : IsTup s.heap t vs.toArray) (hsz : vs.length ≤ sizeLine)
    (h : ∀ d h', Fr h₀ L h' m → News h₀ L h' news → IsTup h' d (vs.take a).toArray → (a < vs.length → News h₀ L h' ((d, { cls := .type "tuple", data := .seq (vs.take a).toArray }) :: news) ∧ s.heap.get? d = none) → Q (.ref d) { s with heap := h' })
    (hs : subscripted slice false (.ref t) (.ref s.heap.objs.size) = operate [.ref s.heap.objs.size, .ref t] (getItem (.ref t) (.ref s.heap.objs.size)) := by with_unfolding_all rfl)
    (hg : ∀ r, letTemporaryGo value (.ref t) r = pure () := by intro _; with_unfolding_all rfl) :
    wpAny (model prog w) A (subscriptTail value slice (.ref t) (.ref s.heap.objs.size)) Q E { s with heap := s.heap.push { cls := .type "slice", data := .fields #[.none, .int a u, .none] } } := by
  have ht' : IsTup (s.heap.push { cls := .type "slice", data := .fields #[.none, .int a u, .none] }) t vs.toArray := ht.keeps fun _ _ e => Heap.get?_push_of_some _ e
  have F1 := F.push { cls := .type "slice", data := .fields #[.none, .int a u, .none] }
  have N1 : News h₀ L (s.heap.push { cls := .type "slice", data := .fields #[.none, .int a u, .none] }) news := N.grown fun _ _ e => Heap.get?_push_of_some _ e
  refine subscriptTail_ops (s := { s with heap := s.heap.push { cls := .type "slice", data := .fields #[.none, .int a u, .none] } }) ht'.typeIs slot_tuple_getitem.lookup
    (getItem_upto ht' (Heap.IsSliceOf.new ..) hsz (fun hle => ?_) fun hlt => ?_) hs hg
  · refine h t _ F1 N1 ?_ fun hlt => absurd hlt (Nat.not_lt.mpr hle)
    rw [List.take_of_length_le hle]; exact ht'
  · refine h _ _ (F1.push _) (N1.grown fun _ _ e => Heap.get?_push_of_some _ e) ⟨_, Heap.get?_push_size _ rfl, rfl, _, rfl⟩ fun _ => ⟨N1.push F1 _, ?_⟩
    show s.heap.get? (s.heap.push _).objs.size = none
    rw [Heap.size_push]
    exact Heap.get?_none_of_le (Nat.le_succ _)
theorem lslice_upto {value slice : PySem.Expr} {t : Addr} {vs : List Value} {a : Nat} {u : Tok} {Q : Value → Shared → Prop} (F : Fr h₀ L s.heap m) (N : News h₀ L s.heap news) (ht : s.heap.IsList t vs.toArray) (hsz : vs.length ≤ sizeLine)
    (h : ∀ d h', Fr h₀ L h' m → News h₀ L h' news → h'.IsList d (vs.take a).toArray → News h₀ L h' ((d, { cls := .type "list", data := .seq (vs.take a).toArray }) :: news) → s.heap.get? d = none → Q (.ref d) { s with heap := h' })
    (hs : subscripted slice false (.ref t) (.ref s.heap.objs.size) = operate [.ref s.heap.objs.size, .ref t] (getItem (.ref t) (.ref s.heap.objs.size)) := by with_unfolding_all rfl)
    (hg : ∀ r, letTemporaryGo value (.ref t) r = pure () := by intro _; with_unfolding_all rfl) :
    wpAny (model prog w) A (subscriptTail value slice (.ref t) (.ref s.heap.objs.size)) Q E { s with heap := s.heap.push { cls := .type "slice", data := .fields #[.none, .int a u, .none] } } := by
  refine slice_list (lo := none) (hi := some (a : Int)) F N ht .none (.int _ _) (fun h' F' N' => ?_) hs hg (by simpa using hsz)
  rw [slicePick_upto'] at N'
  have N2 : News h₀ L h' ((s.heap.objs.size + 1, { cls := .type "list", data := .seq (vs.take a).toArray }) :: news) := by simpa using N'
  exact h _ _ F' (fun p hp => N2 p (.tail _ hp)) ⟨_, (N2 _ (.head _)).1, rfl, _, rfl⟩ N2 (Heap.get?_none_of_le (Nat.le_succ _))
end
end Mine
end

section
open PySem PySem.W PyProof.Rows PySem.Calls PySem.SeqAt
set_option Elab.async false
set_option maxRecDepth 100000
set_option linter.unusedVariables false
namespace Mine
/-- a tuple of ints: where it lies, its values, its numbers -/
structure Tv where
  a : Addr
  vs : List Value
  ns : List Int
def Tv.Has (g : Heap) (news : List (Addr × Obj)) (z : Tv) : Prop := IntsAre z.vs z.ns ∧ (IsTup g z.a z.vs.toArray ∨ ∃ o n, (z.a, o) ∈ news ∧ o.cls = .type "tuple" ∧ o.data = .seq z.vs.toArray n)
theorem Tv.Has.at {g h : Heap} {L : Addr} {m : Str → Option Value} {news : List (Addr × Obj)} {z : Tv} (x : z.Has g news) (F : Fr g L h m) (N : News g L h news) : IsTup h z.a z.vs.toArray := by
  rcases x.2 with ht | ⟨o, n, hm, hc, hd⟩
  · exact ht.keeps F.keep
  · exact ⟨_, (N _ hm).1, hc, n, hd⟩
theorem Tv.Has.mono {g : Heap} {news news' : List (Addr × Obj)} {z : Tv} (x : z.Has g news) (h : ∀ p ∈ news, p ∈ news') : z.Has g news' := ⟨x.1, x.2.imp id fun ⟨o, n, q, r⟩ => ⟨o, n, h _ q, r⟩⟩
theorem Tv.Has.len {g : Heap} {news : List (Addr × Obj)} {z : Tv} (x : z.Has g news) : z.vs.length = z.ns.length := x.1.length
theorem Tv.Has.of_new {g : Heap} {news : List (Addr × Obj)} {a : Addr} {vs : List Value} {ns : List Int} (hi : IntsAre vs ns) (hm : (a, tupOf vs) ∈ news) : Tv.Has g news ⟨a, vs, ns⟩ := ⟨hi, .inr ⟨_, _, hm, rfl, rfl⟩⟩
theorem Tv.Has.of_base {g : Heap} {news : List (Addr × Obj)} {a : Addr} {vs : List Value} {ns : List Int} (hi : IntsAre vs ns) (ht : IsTup g a vs.toArray) : Tv.Has g news ⟨a, vs, ns⟩ := ⟨hi, .inl ht⟩
section
variable {prog : Program} {w : World} {A : Around} {E : Value → Shared → Prop} {s : Shared} {g : Heap} {L : Addr} {m : Str → Option Value} {news : List (Addr × Obj)}
theorem tv_add {x y : Tv} {Q : Value → Shared → Prop} (F : Fr g L s.heap m) (N : News g L s.heap news) (hx : x.Has g news) (hy : y.Has g news) (hz : x.ns.length + y.ns.length ≤ 100000)
    (h : ∀ (z : Tv) h' news', z.Has g news' → z.ns = x.ns ++ y.ns → (∀ p ∈ news, p ∈ news') → Fr g L h' m → News g L h' news' → Q (.ref z.a) { s with heap := h' }) :
    wpAny (model prog w) A (binaryOp .Add (.ref x.a) (.ref y.a)) Q E s := by
  refine add_tuples F N (hx.at F N) (hy.at F N) (fun e => ?_) (fun _ e => ?_) (fun _ _ h' F' N' => ?_) (by rw [hx.len, hy.len, sizeLine_eq]; omega)
  · have e2 : x.ns = [] := List.length_eq_zero_iff.mp (by rw [← hx.len, e]; rfl)
    exact h y _ news hy (by rw [e2]; rfl) (fun _ q => q) F N
  · have e2 : y.ns = [] := List.length_eq_zero_iff.mp (by rw [← hy.len, e]; rfl)
    exact h x _ news hx (by rw [e2]; simp) (fun _ q => q) F N
  · exact h ⟨_, x.vs ++ y.vs, x.ns ++ y.ns⟩ h' _ ⟨hx.1.append hy.1, .inr ⟨_, _, .head _, rfl, rfl⟩⟩ rfl (fun _ q => .tail _ q) F' N'
theorem reads_tup {h : Heap} {a : Addr} {vs : List Value} {ns : List Int} (hl : IsTup h a vs.toArray) (hi : IntsAre vs ns) : Reads h (.ref a) (.tuple (ns.map PyData.int)) [] := by
  obtain ⟨o, ho, hc, n, hd⟩ := hl
  exact Reads.tuple ho hc hd (by simpa using readsAll_of_ints hi)
theorem shaped_tup (ns : List Int) : shaped (.tuple (ns.map PyData.int)) = true := by
  have h1 := W.depthAll_ints ns
  have h2 : PyData.depth (.tuple (ns.map PyData.int)) ≤ 64 := by simp only [PyData.depth]; omega
  show (PyData.canLay0 (.tuple (ns.map PyData.int)) && decide (PyData.depth (.tuple (ns.map PyData.int)) ≤ 64)) = true
  rw [Bool.and_eq_true]
  exact ⟨by simp only [PyData.canLay0]; exact canLayAll0_ints ns, decide_eq_true h2⟩
theorem tv_eq {x y : Tv} {Q : Value → Shared → Prop} (F : Fr g L s.heap m) (N : News g L s.heap news) (hx : x.Has g news) (hy : y.Has g news) (hu : A.units + 64 < cLine)
    (h : Q (.bool (decide (x.ns = y.ns))) s) : wpAny (model prog w) A (compareOp .Eq (.ref x.a) (.ref y.a)) Q E s :=
  eq_dataH_same (reads_tup (hx.at F N) hx.1) (reads_tup (hy.at F N) hy.1) (shaped_tup _) (shaped_tup _) hu (by simp only [SeqAt.noMix]; exact noMix_ints _ _) (by simp only [PySem.Spec.same]; rw [same_ints]; exact h)
theorem tv_ne {x y : Tv} {Q : Value → Shared → Prop} (F : Fr g L s.heap m) (N : News g L s.heap news) (hx : x.Has g news) (hy : y.Has g news) (hu : A.units + 64 < cLine)
    (h : Q (.bool (!decide (x.ns = y.ns))) s) : wpAny (model prog w) A (compareOp .NotEq (.ref x.a) (.ref y.a)) Q E s :=
  ne_dataH_same (reads_tup (hx.at F N) hx.1) (reads_tup (hy.at F N) hy.1) (shaped_tup _) (shaped_tup _) hu (by simp only [SeqAt.noMix]; exact noMix_ints _ _) (by simp only [PySem.Spec.same]; rw [same_ints]; exact h)
theorem tv_len {x : Tv} {Q : Value → Shared → Prop} (F : Fr g L s.heap m) (N : News g L s.heap news) (hx : x.Has g news) (hz : x.ns.length ≤ 100000)
    (h : ∀ t k, Q (.int x.ns.length t) { s with toks := k }) : wpAny (model prog w) A (call (.builtin "len") [.ref x.a]) Q E s := by
  refine len_tuple (hx.at F N) (by rw [List.size_toArray, hx.len]; omega) ?_
  rw [List.size_toArray, hx.len]
  exact h _ _
theorem tv_item {value slice : PySem.Expr} {x : Tv} {k : Int} {u : Tok} {Q : Value → Shared → Prop} (F : Fr g L s.heap m) (N : News g L s.heap news) (hx : x.Has g news) (hz : x.ns.length ≤ 100000) (h0 : 0 ≤ k) (h1 : k < x.ns.length)
    (h : ∀ t, Q (.int (x.ns.getD k.toNat 0) t) s)
    (hs : subscripted slice false (.ref x.a) (.int k u) = operate [.ref x.a, .int k u] (getItem (.ref x.a) (.int k u)) := by with_unfolding_all rfl) (hg : ∀ r, letTemporaryGo value (.ref x.a) r = pure () := by intro _; with_unfolding_all rfl) :
    wpAny (model prog w) A (subscriptTail value slice (.ref x.a) (.int k u)) Q E s :=
  item_tuple_ints (hx.at F N) hx.1 h0 h1 (by omega) h hs hg
theorem tv_upto {value slice : PySem.Expr} {x : Tv} {a : Nat} {u : Tok} {Q : Value → Shared → Prop} (F : Fr g L s.heap m) (N : News g L s.heap news) (hx : x.Has g news) (hz : x.ns.length ≤ 100000)
    (h : ∀ (z : Tv) h' news', z.Has g news' → z.ns = x.ns.take a → (∀ p ∈ news, p ∈ news') → Fr g L h' m → News g L h' news' → Q (.ref z.a) { s with heap := h' })
    (hs : subscripted slice false (.ref x.a) (.ref s.heap.objs.size) = operate [.ref s.heap.objs.size, .ref x.a] (getItem (.ref x.a) (.ref s.heap.objs.size)) := by with_unfolding_all rfl)
    (hg : ∀ r, letTemporaryGo value (.ref x.a) r = pure () := by intro _; with_unfolding_all rfl) :
    wpAny (model prog w) A (subscriptTail value slice (.ref x.a) (.ref s.heap.objs.size)) Q E { s with heap := s.heap.push { cls := .type "slice", data := .fields #[.none, .int a u, .none] } } := by
  have ht := hx.at F N
  have ht' : IsTup (s.heap.push { cls := .type "slice", data := .fields #[.none, .int a u, .none] }) x.a x.vs.toArray := ht.keeps fun _ _ e => Heap.get?_push_of_some _ e
  have F1 := F.push { cls := .type "slice", data := .fields #[.none, .int a u, .none] }
  have N1 : News g L (s.heap.push { cls := .type "slice", data := .fields #[.none, .int a u, .none] }) news := N.grown fun _ _ e => Heap.get?_push_of_some _ e
  refine subscriptTail_ops (s := { s with heap := s.heap.push { cls := .type "slice", data := .fields #[.none, .int a u, .none] } }) ht'.typeIs slot_tuple_getitem.lookup
    (getItem_upto ht' (Heap.IsSliceOf.new ..) (by rw [hx.len, sizeLine_eq]; omega) (fun hle => ?_) fun hlt => ?_) hs hg
  · exact h x _ news hx (by rw [List.take_of_length_le (by rw [← hx.len]; exact hle)]) (fun _ q => q) F1 N1
  · exact h ⟨_, x.vs.take a, x.ns.take a⟩ _ _ ⟨hx.1.take _, .inr ⟨_, _, .head _, rfl, rfl⟩⟩ rfl (fun _ q => .tail _ q) (F1.push _) (N1.push F1 _)
theorem tv_from {value slice : PySem.Expr} {x : Tv} {a : Nat} {u : Tok} {Q : Value → Shared → Prop} (F : Fr g L s.heap m) (N : News g L s.heap news) (hx : x.Has g news) (hz : x.ns.length ≤ 100000) (h1 : 1 ≤ a) (h2 : a ≤ x.ns.length)
    (h : ∀ (z : Tv) h' news', z.Has g news' → z.ns = x.ns.drop a → (∀ p ∈ news, p ∈ news') → Fr g L h' m → News g L h' news' → Q (.ref z.a) { s with heap := h' })
    (hs : subscripted slice false (.ref x.a) (.ref s.heap.objs.size) = operate [.ref s.heap.objs.size, .ref x.a] (getItem (.ref x.a) (.ref s.heap.objs.size)) := by with_unfolding_all rfl)
    (hg : ∀ r, letTemporaryGo value (.ref x.a) r = pure () := by intro _; with_unfolding_all rfl) :
    wpAny (model prog w) A (subscriptTail value slice (.ref x.a) (.ref s.heap.objs.size)) Q E { s with heap := s.heap.push { cls := .type "slice", data := .fields #[.int a u, .none, .none] } } :=
  slice_tuple_from F N (hx.at F N) h1 (by rw [List.size_toArray, hx.len]; exact h2) (fun h' F' N' => h ⟨_, x.vs.drop a, x.ns.drop a⟩ h' _ ⟨hx.1.drop _, .inr ⟨_, _, .head _, rfl, rfl⟩⟩ rfl (fun _ q => .tail _ q) F' N') hs hg (by rw [List.size_toArray, hx.len, sizeLine_eq]; omega)
end
structure EuSt where
  one : Tv
  oth : Tv
  sh : Tv
  led : List (Addr × Obj)
structure EuSt.ok (g : Heap) (both : Tv) (ns ms : List Int) (c : EuSt) : Prop where
  h1 : c.one.Has g c.led
  h2 : c.oth.Has g c.led
  h3 : c.sh.Has g c.led
  h4 : both.Has g c.led
  e1 : ns ++ ms = c.sh.ns ++ (c.one.ns ++ c.oth.ns)
  e2 : ms ++ ns = c.sh.ns ++ (c.oth.ns ++ c.one.ns)
  n1 : c.one.ns ≠ []
  n2 : c.oth.ns ≠ []
end Mine
end

section
set_option maxHeartbeats 1000000
open PySem PySem.W PyProof.Rows PySem.Calls
set_option Elab.async false
set_option maxRecDepth 100000
set_option linter.unusedVariables false
namespace Mine
section
variable {prog : Program} {w : World} {A : Around} {E : Value → Shared → Prop} {s : Shared} {env : Env} {h₀ : Heap} {x : Str} {body : List Stmt} {Q : Flow → Shared → Prop}
/-- the end of a turn of a for: any ledger may stand behind it -/
def FfEnd {σ : Type} (h₀ : Heap) (L : Addr) (s₁ : Shared) (ps : σ → List (Str × Value)) (Facts : List Int → σ → List (Addr × Obj) → Prop) (x : Str) (stored : List Str) (m₀ : Str → Option Value) (pre : List Int) (own : List (Addr × Obj)) (I : Addr) (s₂ : Shared) : Prop :=
  ∃ (c : σ) (h' : Heap) (tk : Nat) (m' : Str → Option Value) (news' : List (Addr × Obj)), s₂ = { s₁ with heap := h', toks := tk } ∧ Fr h₀ L h' m' ∧ News h₀ L h' news' ∧ (∀ p ∈ own, p ∈ news') ∧ Facts pre c (news'.filter fun p => p.1 != I) ∧ (∀ p ∈ ps c, m' p.1 = some p.2) ∧
    ∀ z, z ≠ x → (∀ p ∈ ps c, z ≠ p.1) → stored.contains z = false → m' z = m₀ z
def FfPost {σ : Type} (h₀ : Heap) (L : Addr) (s₁ : Shared) (ps : σ → List (Str × Value)) (Facts : List Int → σ → List (Addr × Obj) → Prop) (x : Str) (stored : List Str) (m₀ : Str → Option Value) (pre : List Int) (own : List (Addr × Obj)) (I : Addr) (Q : Flow → Shared → Prop) (f : Flow) (s₂ : Shared) : Prop :=
  match f with
  | .ret v => Q (.ret v) s₂
  | .brk => Q .next s₂
  | _ => FfEnd h₀ L s₁ ps Facts x stored m₀ pre own I s₂
theorem ff_end {σ : Type} {L : Addr} {s₁ : Shared} {ps : σ → List (Str × Value)} {Facts : List Int → σ → List (Addr × Obj) → Prop} {x : Str} {stored : List Str} {m₀ m' : Str → Option Value} {pre : List Int} {own news' : List (Addr × Obj)} {I : Addr} {h' : Heap} {tk : Nat} (c : σ)
    (F : Fr h₀ L h' m') (N : News h₀ L h' news') (ho : ∀ p ∈ own, p ∈ news') (hf : Facts pre c (news'.filter fun p => p.1 != I)) (hk : ∀ p ∈ ps c, m' p.1 = some p.2) (hr : ∀ z, z ≠ x → (∀ p ∈ ps c, z ≠ p.1) → stored.contains z = false → m' z = m₀ z) :
    FfEnd h₀ L s₁ ps Facts x stored m₀ pre own I { s₁ with heap := h', toks := tk } := ⟨c, h', tk, m', news', rfl, F, N, ho, hf, hk, hr⟩
def IsIter (I : Addr) (own : List (Addr × Obj)) : Prop := ∃ o, (I, o) ∈ own ∧ o.cls = .type "list_iterator" ∧ ∃ fs, o.data = .fields fs
theorem ff_list {σ : Type} {l : Addr} {vs : List Value} {ns : List Int} {m₀ : Str → Option Value} {news : List (Addr × Obj)} (ps : σ → List (Str × Value)) (Facts : List Int → σ → List (Addr × Obj) → Prop) (stored : List Str) (c₀ : σ)
    (hh : A.handled = none) (hl : s.heap.IsList l vs.toArray) (hlL : l ≠ env.locals) (hi : IntsAre vs ns) (F : Fr h₀ env.locals s.heap m₀) (N : News h₀ env.locals s.heap news) (hf : Facts [] c₀ news) (hk : ∀ p ∈ ps c₀, m₀ p.1 = some p.2)
    (turn : ∀ (c : σ) pre post n t (u : Str → Option Value) h tk own nx I, ns = pre ++ n :: post → IsIter I own → Facts pre c nx →
      Fr h₀ env.locals h (fun y => if y = x then some (.int n t) else kstB (fun z => if stored.contains z then u z else m₀ z) (ps c) y) → News h₀ env.locals h (nx ++ own) →
      wpAny (model prog w) A (execs body env) (FfPost h₀ env.locals { s with heap := h, toks := tk } ps Facts x stored m₀ (pre ++ [n]) own I Q) E { s with heap := h, toks := tk })
    (done : ∀ (c : σ) (u : Str → Option Value) h tk nx, Facts ns c nx → Fr h₀ env.locals h (fun y => if y = x then u y else kstB (fun z => if stored.contains z then u z else m₀ z) (ps c) y) → News h₀ env.locals h nx → Q .next { s with heap := h, toks := tk }) :
    wpAny (model prog w) A (pyIter (.ref l)) (fun it s₂ => LoopAtV prog w A h₀ env x body Q E it s₂) E s := by
  obtain ⟨ol, hol, _⟩ := id hl
  have hne : l ≠ s.heap.objs.size := Nat.ne_of_lt (Heap.lt_size hol)
  refine wpAny_pyIter_list hl ?_
  have W := Walks.list (prog := prog) (w := w) hh s.heap.objs.size l hne vs.toArray
  have hlen : vs.toArray.size = ns.length := by simp [hi.length]
  rw [hlen] at W
  let J' : Nat → (Str → Option Value) → List (Addr × Obj) → Prop := fun i m₁ nx => ∃ c : σ, Facts (ns.take i) c nx ∧ (∀ p ∈ ps c, m₁ p.1 = some p.2) ∧ ∀ z, z ≠ x → (∀ p ∈ ps c, z ≠ p.1) → stored.contains z = false → m₁ z = m₀ z
  refine ⟨_, _, _, ns.length, _, _, m₀, news, J', rfl, W, ?_, ?_, ?_, ⟨⟨_, Heap.get?_push_size _ rfl, rfl, rfl⟩, hl.at fun o e => Heap.get?_push_of_some _ e⟩, F.push _, (fun p hp => ⟨Heap.get?_push_of_some _ (N p hp).1, (N p hp).2⟩), ⟨c₀, by simpa using hf, hk, fun _ _ _ _ => rfl⟩, ?_, ?_⟩
  · intro hm
    rcases List.mem_cons.mp hm with e | hm
    · exact absurd F.ns.lt (e ▸ Nat.lt_irrefl _)
    · exact hlL (List.mem_singleton.mp hm).symm
  · intro b hb
    rw [List.mem_singleton.mp hb]
    exact next_is_new F
  · intro p hp hI
    exact absurd (Heap.lt_size (N p hp).1) ((List.mem_singleton.mp hI) ▸ Nat.lt_irrefl _)
  · rintro i v m₁ news₁ s₁ own ⟨hh', tk', rfl⟩ hin hP ⟨c, hf', h1, h2⟩ hoff hown hget hall st F₁ N₁
    have hlt' : i < ns.length := hin
    obtain ⟨t, hx⟩ := hi.get i ns[i] (by simp [hlt'])
    have hv : v = .int ns[i] t := by
      have hP' : vs[i]? = some v := by simpa using hP
      rw [hx] at hP'; exact (Option.some.inj hP').symm
    subst hv
    have N₂ : News h₀ env.locals hh' (news₁ ++ own) := fun p hp => N₁ p ((List.mem_append.mp hp).elim (fun h => List.mem_append.mpr (.inr h)) fun h => List.mem_append.mpr (.inl h))
    have hs : ns.take (i + 1) = ns.take i ++ [ns[i]] := by rw [List.take_add_one, List.getElem?_eq_getElem hlt']; rfl
    have e : ns = ns.take i ++ ns[i] :: ns.drop (i + 1) := by
      have ht := List.take_append_drop (i + 1) ns
      rw [hs, List.append_assoc] at ht
      exact ht.symm
    obtain ⟨⟨oi, ho1, ho2, ho3⟩, _⟩ := st
    have hI : IsIter s.heap.objs.size own := ⟨oi, hall _ (.head _) (next_is_new F) _ ho1, ho2, _, ho3⟩
    refine wpAny_mono (turn c _ _ ns[i] t m₁ hh' tk' own news₁ s.heap.objs.size e hI hf' (kst_fr h1 h2 F₁) N₂) (fun f s₂ p => ?_) fun _ _ e => e
    have fin : FfEnd h₀ env.locals { s with heap := hh', toks := tk' } ps Facts x stored m₀ (ns.take i ++ [ns[i]]) own s.heap.objs.size s₂ → LoopStepU h₀ env.locals [s.heap.objs.size] own (J' (i + 1)) { s with heap := hh', toks := tk' } .next s₂ := by
      rintro ⟨c', h', tk, m', news', e, F', N', ho, hf3, hk3, hr3⟩
      refine ⟨rfl, h', tk, m', news'.filter fun p => p.1 != s.heap.objs.size, e, F', fun p hp => N' p ((List.mem_append.mp hp).elim (ho p) fun q => (List.mem_filter.mp q).1), fun p hp hq => ?_, c', by rw [hs]; exact hf3, hk3, hr3⟩
      have h1 := (List.mem_filter.mp hp).2
      rw [List.mem_singleton.mp hq] at h1
      simp at h1
    cases f with
    | ret v => exact .ret p
    | brk => exact .brk p
    | next => exact .next (fin p)
    | cont => exact .cont (fin p)
  · rintro h' tk m' news' F' N' _ ⟨c, hf', h1, h2⟩
    rw [List.take_length] at hf'
    exact done c m' h' tk news' hf' (kst_frOut h1 h2 F') N'
end
/-- what is no iterator stays in the ledger of the next turn -/
theorem mem_off {g h : Heap} {L I a : Addr} {own news : List (Addr × Obj)} {o : Obj} (N : News g L h news) (hI : IsIter I own) (ho : ∀ p ∈ own, p ∈ news) (hm : (a, o) ∈ news) (hc : o.cls ≠ .type "list_iterator") : (a, o) ∈ news.filter fun p => p.1 != I := by
  refine List.mem_filter.mpr ⟨hm, ?_⟩
  obtain ⟨oi, h1, h2, _⟩ := hI
  simp only [bne_iff_ne, ne_eq]
  rintro rfl
  have e1 := (N _ (ho _ h1)).1
  have e2 := (N _ hm).1
  rw [e1] at e2
  have e3 : oi = o := Option.some.inj e2
  exact hc (e3 ▸ h2)
theorem cell_off {g h : Heap} {L I a : Addr} {own news : List (Addr × Obj)} {o : Obj} {v : Option Value} (N : News g L h news) (hI : IsIter I own) (ho : ∀ p ∈ own, p ∈ news) (hm : (a, o) ∈ news) (hc : o.data = .cell v) : (a, o) ∈ news.filter fun p => p.1 != I := by
  refine List.mem_filter.mpr ⟨hm, ?_⟩
  obtain ⟨oi, h1, _, fs, h2⟩ := hI
  simp only [bne_iff_ne, ne_eq]
  rintro rfl
  have e1 := (N _ (ho _ h1)).1
  have e2 := (N _ hm).1
  rw [e1] at e2
  have e3 : oi = o := Option.some.inj e2
  subst e3
  rw [h2] at hc; cases hc
theorem Tv.Has.off {g h : Heap} {L I : Addr} {own news : List (Addr × Obj)} {z : Tv} (x : z.Has g news) (N : News g L h news) (hI : IsIter I own) (ho : ∀ p ∈ own, p ∈ news) : z.Has g (news.filter fun p => p.1 != I) :=
  ⟨x.1, x.2.imp id fun ⟨o, n, q, hc, hd⟩ => ⟨o, n, mem_off N hI ho q (fun e => absurd (Value.type.inj (hc.symm.trans e)) (by decide)), hc, hd⟩⟩
structure CeSt where
  vs : List Value
  ns : List Int
  cap : Nat
structure CeSt.ok (c : CeSt) : Prop where
  hi : IntsAre c.vs c.ns
  hn : c.ns.length = 7
/-- a list of ints that nothing writes -/
structure Lv where
  a : Addr
  vs : List Value
  ns : List Int
def Lv.Has (g : Heap) (news : List (Addr × Obj)) (z : Lv) : Prop := IntsAre z.vs z.ns ∧ (g.IsList z.a z.vs.toArray ∨ ∃ o n, (z.a, o) ∈ news ∧ o.cls = .type "list" ∧ o.data = .seq z.vs.toArray n)
theorem Lv.Has.at {g h : Heap} {L : Addr} {m : Str → Option Value} {news : List (Addr × Obj)} {z : Lv} (x : z.Has g news) (F : Fr g L h m) (N : News g L h news) : h.IsList z.a z.vs.toArray := by
  rcases x.2 with ht | ⟨o, n, hm, hc, hd⟩
  · exact ht.at fun o e => F.keep _ o e
  · exact ⟨_, (N _ hm).1, hc, n, hd⟩
theorem Lv.Has.mono {g : Heap} {news news' : List (Addr × Obj)} {z : Lv} (x : z.Has g news) (h : ∀ p ∈ news, p ∈ news') : z.Has g news' := ⟨x.1, x.2.imp id fun ⟨o, n, q, r⟩ => ⟨o, n, h _ q, r⟩⟩
theorem Lv.Has.off {g h : Heap} {L I : Addr} {own news : List (Addr × Obj)} {z : Lv} (x : z.Has g news) (N : News g L h news) (hI : IsIter I own) (ho : ∀ p ∈ own, p ∈ news) : z.Has g (news.filter fun p => p.1 != I) :=
  ⟨x.1, x.2.imp id fun ⟨o, n, q, hc, hd⟩ => ⟨o, n, mem_off N hI ho q (fun e => absurd (Value.type.inj (hc.symm.trans e)) (by decide)), hc, hd⟩⟩
theorem Lv.Has.len {g : Heap} {news : List (Addr × Obj)} {z : Lv} (x : z.Has g news) : z.vs.length = z.ns.length := x.1.length
theorem Lv.Has.off_L {g h : Heap} {L : Addr} {m : Str → Option Value} {news : List (Addr × Obj)} {z : Lv} (x : z.Has g news) (F : Fr g L h m) (N : News g L h news) : z.a ≠ L := by
  rcases x.2 with ⟨o, ho, _⟩ | ⟨o, n, hm, _⟩
  · exact Nat.ne_of_lt (Nat.lt_of_lt_of_le (Heap.lt_size ho) F.above)
  · exact (N _ hm).2.1
section
variable {prog : Program} {w : World} {A : Around} {E : Value → Shared → Prop} {s : Shared} {g : Heap} {L : Addr} {m : Str → Option Value} {news : List (Addr × Obj)}
theorem lv_add {x y : Lv} {Q : Value → Shared → Prop} (F : Fr g L s.heap m) (N : News g L s.heap news) (hx : x.Has g news) (hy : y.Has g news) (hz : x.ns.length + y.ns.length ≤ 100000)
    (h : ∀ (z : Lv) h' news', z.Has g news' → z.ns = x.ns ++ y.ns → (∀ p ∈ news, p ∈ news') → Fr g L h' m → News g L h' news' → Q (.ref z.a) { s with heap := h' }) :
    wpAny (model prog w) A (binaryOp .Add (.ref x.a) (.ref y.a)) Q E s :=
  add_lists F N (hx.at F N) (hy.at F N) (fun h' F' N' => h ⟨_, x.vs ++ y.vs, x.ns ++ y.ns⟩ h' _ ⟨hx.1.append hy.1, .inr ⟨_, _, .head _, rfl, rfl⟩⟩ rfl (fun _ q => .tail _ q) F' N') (by rw [hx.len, hy.len, sizeLine_eq]; omega)
theorem lv_upto {value slice : PySem.Expr} {x : Lv} {a : Nat} {u : Tok} {Q : Value → Shared → Prop} (F : Fr g L s.heap m) (N : News g L s.heap news) (hx : x.Has g news) (hz : x.ns.length ≤ 100000)
    (h : ∀ (z : Lv) h' news', z.Has g news' → z.ns = x.ns.take a → (∀ p ∈ news, p ∈ news') → Fr g L h' m → News g L h' news' → Q (.ref z.a) { s with heap := h' })
    (hs : subscripted slice false (.ref x.a) (.ref s.heap.objs.size) = operate [.ref s.heap.objs.size, .ref x.a] (getItem (.ref x.a) (.ref s.heap.objs.size)) := by with_unfolding_all rfl)
    (hg : ∀ r, letTemporaryGo value (.ref x.a) r = pure () := by intro _; with_unfolding_all rfl) :
    wpAny (model prog w) A (subscriptTail value slice (.ref x.a) (.ref s.heap.objs.size)) Q E { s with heap := s.heap.push { cls := .type "slice", data := .fields #[.none, .int a u, .none] } } :=
  lslice_upto F N (hx.at F N) (by rw [hx.len, sizeLine_eq]; omega) (fun d h' F' N' _ N2 _ => h ⟨d, x.vs.take a, x.ns.take a⟩ h' _ ⟨hx.1.take _, .inr ⟨_, _, .head _, rfl, rfl⟩⟩ rfl (fun _ q => .tail _ q) F' N2) hs hg
end
theorem Lv.Has.of_new {g : Heap} {news : List (Addr × Obj)} {a : Addr} {vs : List Value} {ns : List Int} {n : Nat} (hi : IntsAre vs ns) (hm : (a, W.listOf vs.toArray n) ∈ news) : Lv.Has g news ⟨a, vs, ns⟩ := ⟨hi, .inr ⟨_, n, hm, rfl, rfl⟩⟩
theorem Lv.Has.of_base {g : Heap} {news : List (Addr × Obj)} {a : Addr} {vs : List Value} {ns : List Int} (hi : IntsAre vs ns) (ht : g.IsList a vs.toArray) : Lv.Has g news ⟨a, vs, ns⟩ := ⟨hi, .inl ht⟩
end Mine
end

section
open PySem PySem.W PyProof.Rows PySem.Calls
set_option Elab.async false
set_option linter.unusedVariables false
namespace Mine
theorem news_new {g h h' : Heap} {L d : Addr} {o : Obj} {m : Str → Option Value} {news : List (Addr × Obj)} (F : Fr g L h m) (N : News g L h' news) (x : New h h' d o) : News g L h' ((d, o) :: news) := by
  intro p hp
  rcases List.mem_cons.mp hp with rfl | hp
  · refine ⟨x.2, ?_, ?_⟩
    · rintro e
      have e : d = L := e
      obtain ⟨oL, _, _, hL, _⟩ := F.ns
      have h1 := x.1
      rw [e, hL] at h1; cases h1
    · cases q : g.get? d with
      | none => rfl
      | some o' => have := F.keep _ _ q; rw [x.1] at this; cases this
  · exact N p hp
/-- does the text end in a dot and figures, with or without one line feed behind -/
def hitL (l : List Nat) : Bool := anyHit l.toArray l.length l.length 0
def piecesL (f k : List Int) : List Int → List Int → List Int
  | done, [] => done
  | done, n :: r => piecesL f k (done ++ (if decide (256 ≤ n) = !hitL (laidL 0 done) then f else k)) r
theorem piecesL_app (f k : List Int) : ∀ (pre done : List Int) (n : Int), piecesL f k done (pre ++ [n]) = piecesL f k done pre ++ (if decide (256 ≤ n) = !hitL (laidL 0 (piecesL f k done pre)) then f else k)
  | [], done, n => rfl
  | a :: r, done, n => by
    simp only [List.cons_append, piecesL]
    exact piecesL_app f k r _ n
structure PgSt where
  page : Str
  pt : Tok
  place : Int
  qt : Tok
  done : List Int
structure PgSt.ok (f k : List Int) (pre : List Int) (c : PgSt) : Prop where
  hp : c.page.cps.toList = laidL 0 c.done
  hq : c.place = (c.done.length : Int)
  hd : c.done = piecesL f k [] pre
  hb : ∀ n ∈ c.done, 0 ≤ n ∧ n < 6
  hl : c.done.length ≤ 9 * pre.length
theorem hit_of {x : Str} {l : List Nat} (h : x.cps.toList = l) : anyHit x.cps x.cps.size x.cps.size 0 = hitL l := by
  subst h
  simp [hitL]
end Mine
end

section
open PySem PySem.W PyProof.Rows PySem.Calls
set_option Elab.async false
set_option maxRecDepth 100000
set_option linter.unusedVariables false
namespace Mine
theorem not_L {g h : Heap} {L d : Addr} {m : Str → Option Value} {o : Obj} {its : Array Value} {n : Nat} (F : Fr g L h m) (h1 : h.get? d = some o) (hd : o.data = .seq its n) : d ≠ L := by
  rintro rfl
  obtain ⟨oL, es, ep, hL, h2, _⟩ := F.ns
  rw [hL] at h1
  rw [← Option.some.inj h1, h2] at hd
  cases hd
theorem lv_get {g h : Heap} {L d : Addr} {m : Str → Option Value} {news : List (Addr × Obj)} {vs : List Value} {ns : List Int} (hl : h.IsList d vs.toArray) (hi : IntsAre vs ns) (F : Fr g L h m) (N : News g L h news) :
    ∃ news', Lv.Has g news' ⟨d, vs, ns⟩ ∧ (∀ p ∈ news, p ∈ news') ∧ News g L h news' := by
  obtain ⟨o, ho, hc, n, hd⟩ := hl
  cases q : g.get? d with
  | some o' =>
    have := F.keep _ _ q
    rw [ho] at this
    have e : o = o' := Option.some.inj this
    subst e
    exact ⟨news, ⟨hi, .inl ⟨o, q, hc, n, hd⟩⟩, fun _ q => q, N⟩
  | none => exact ⟨(d, o) :: news, ⟨hi, .inr ⟨o, n, .head _, hc, hd⟩⟩, fun _ q => .tail _ q, fun p hp => by
      rcases List.mem_cons.mp hp with rfl | hp
      · exact ⟨ho, not_L F ho hd, q⟩
      · exact N p hp⟩
theorem tv_get {g h : Heap} {L d : Addr} {m : Str → Option Value} {news : List (Addr × Obj)} {vs : List Value} {ns : List Int} (hl : IsTup h d vs.toArray) (hi : IntsAre vs ns) (F : Fr g L h m) (N : News g L h news) :
    ∃ news', Tv.Has g news' ⟨d, vs, ns⟩ ∧ (∀ p ∈ news, p ∈ news') ∧ News g L h news' := by
  obtain ⟨o, ho, hc, n, hd⟩ := hl
  cases q : g.get? d with
  | some o' =>
    have := F.keep _ _ q
    rw [ho] at this
    have e : o = o' := Option.some.inj this
    subst e
    exact ⟨news, ⟨hi, .inl ⟨o, q, hc, n, hd⟩⟩, fun _ q => q, N⟩
  | none => exact ⟨(d, o) :: news, ⟨hi, .inr ⟨o, n, .head _, hc, hd⟩⟩, fun _ q => .tail _ q, fun p hp => by
      rcases List.mem_cons.mp hp with rfl | hp
      · exact ⟨ho, not_L F ho hd, q⟩
      · exact N p hp⟩
theorem tv_new {g h h' : Heap} {L d : Addr} {vs : List Value} {ns : List Int} {m : Str → Option Value} {news : List (Addr × Obj)} (F : Fr g L h m) (N : News g L h' news) (x : New h h' d (tupOf vs)) (hi : IntsAre vs ns) :
    ∃ nw, Tv.Has g nw ⟨d, vs, ns⟩ ∧ (∀ p ∈ news, p ∈ nw) ∧ News g L h' nw := ⟨_, .of_new hi (.head _), fun _ q => .tail _ q, news_new F N x⟩
theorem mine_mod {a b : Int} (h : 0 < b) : 0 ≤ a.fmod b ∧ a.fmod b < b := by
  rw [Int.fmod_eq_emod_of_nonneg _ (Int.le_of_lt h)]
  exact ⟨Int.emod_nonneg _ (Int.ne_of_gt h), Int.emod_lt_of_pos _ h⟩
theorem piecesL_ok {f k : List Int} (hf : ∀ n ∈ f, 0 ≤ n ∧ n < 6) (hk : ∀ n ∈ k, 0 ≤ n ∧ n < 6) (hfz : f.length ≤ 3) (hkz : k.length ≤ 9) : ∀ (ns done : List Int), (∀ n ∈ done, 0 ≤ n ∧ n < 6) →
    (∀ n ∈ piecesL f k done ns, 0 ≤ n ∧ n < 6) ∧ (piecesL f k done ns).length ≤ done.length + 9 * ns.length
  | [], done, h => ⟨h, by simp [piecesL]⟩
  | n :: r, done, h => by
    have key : ∀ w : List Int, (∀ n ∈ w, 0 ≤ n ∧ n < 6) → w.length ≤ 9 → (∀ n ∈ piecesL f k (done ++ w) r, 0 ≤ n ∧ n < 6) ∧ (piecesL f k (done ++ w) r).length ≤ done.length + 9 * (n :: r).length := by
      intro w hw hwl
      have := piecesL_ok hf hk hfz hkz r (done ++ w) fun z hz => (List.mem_append.mp hz).elim (h z) (hw z)
      refine ⟨this.1, ?_⟩
      have h2 := this.2
      simp only [List.length_append, List.length_cons] at *
      omega
    simp only [piecesL]
    split
    · exact key f hf (by omega)
    · exact key k hk hkz
section
variable {prog : Program} {w : World} {A : Around} {E : Value → Shared → Prop} {s : Shared} {g : Heap} {L : Addr} {m : Str → Option Value} {news : List (Addr × Obj)}
theorem lv_item {value slice : PySem.Expr} {x : Lv} {k : Int} {u : Tok} {Q : Value → Shared → Prop} (F : Fr g L s.heap m) (N : News g L s.heap news) (hx : x.Has g news) (hz : x.ns.length ≤ 100000) (h0 : 0 ≤ k) (h1 : k < x.ns.length)
    (h : ∀ t, Q (.int (x.ns.getD k.toNat 0) t) s)
    (hs : subscripted slice false (.ref x.a) (.int k u) = operate [.ref x.a, .int k u] (getItem (.ref x.a) (.int k u)) := by with_unfolding_all rfl) (hg : ∀ r, letTemporaryGo value (.ref x.a) r = pure () := by intro _; with_unfolding_all rfl) :
    wpAny (model prog w) A (subscriptTail value slice (.ref x.a) (.int k u)) Q E s :=
  item_list_ints (hx.at F N) hx.1 h0 h1 (by omega) h hs hg
theorem lv_from {value slice : PySem.Expr} {x : Lv} {a : Nat} {u : Tok} {Q : Value → Shared → Prop} (F : Fr g L s.heap m) (N : News g L s.heap news) (hx : x.Has g news) (hz : x.ns.length ≤ 100000)
    (h : ∀ (z : Lv) h' news', z.Has g news' → z.ns = x.ns.drop a → (∀ p ∈ news, p ∈ news') → Fr g L h' m → News g L h' news' → Q (.ref z.a) { s with heap := h' })
    (hs : subscripted slice false (.ref x.a) (.ref s.heap.objs.size) = operate [.ref s.heap.objs.size, .ref x.a] (getItem (.ref x.a) (.ref s.heap.objs.size)) := by with_unfolding_all rfl)
    (hg : ∀ r, letTemporaryGo value (.ref x.a) r = pure () := by intro _; with_unfolding_all rfl) :
    wpAny (model prog w) A (subscriptTail value slice (.ref x.a) (.ref s.heap.objs.size)) Q E { s with heap := s.heap.push { cls := .type "slice", data := .fields #[.int a u, .none, .none] } } := by
  refine slice_list (lo := some (a : Int)) (hi := none) F N (hx.at F N) (.int _ _) .none (fun h' F' N' => ?_) hs hg (by rw [List.size_toArray, hx.len, sizeLine_eq]; omega)
  have e := kmk_from (x := (a : Int)) hx.1 (by omega)
  rw [Int.toNat_natCast] at e
  refine h ⟨_, _, x.ns.drop a⟩ h' _ ⟨e, .inr ⟨_, 0, .head _, rfl, ?_⟩⟩ rfl (fun _ q => .tail _ q) F' N'
  simp
end
end Mine
end

section
open PySem PySem.W PyProof.Rows PySem.Calls
set_option Elab.async false
set_option maxRecDepth 100000
namespace Mine
theorem pa_pat : PlainAttrs "re.Pattern" :=
  ⟨⟨"object.__getattribute__", by rw [typeLookup_type, builtinLookup_eq_fast]; kernel_rfl, by decide +kernel⟩, by rw [typeLookup_type, builtinLookup_eq_fast]; kernel_rfl⟩
theorem pa_match : PlainAttrs "re.Match" :=
  ⟨⟨"object.__getattribute__", by rw [typeLookup_type, builtinLookup_eq_fast]; kernel_rfl, by decide +kernel⟩, by rw [typeLookup_type, builtinLookup_eq_fast]; kernel_rfl⟩
theorem slot_search : Slot "re.Pattern" "search" "re.Pattern.search" :=
  .of (owner := "re.Pattern") (n := "search") (by rw [typeLookup_type, builtinLookup_eq_fast]; kernel_rfl) (by decide +kernel) (by decide +kernel) (by decide +kernel)
    (by first | exact .inl (by decide +kernel) | exact .inr (by decide +kernel)) (by rw [isSubtype_type]; kernel_rfl)
theorem type_search : typeOf (.builtin "re.Pattern.search") = pure (.type "method_descriptor") := by show builtinType _ = _; rw [builtinType_eq_fast]; kernel_rfl
theorem entry_search : entryFor table "re.Pattern.search" = some Builtin.«re.Pattern.search» := entryFor_of_tree (by kernel_rfl)
theorem args_search (a b : Value) : argsOk "re.Pattern.search" ⟨[a, b], []⟩ := by unfold argsOk; kernel_rfl
theorem slot_span : Slot "re.Match" "span" "re.Match.span" :=
  .of (owner := "re.Match") (n := "span") (by rw [typeLookup_type, builtinLookup_eq_fast]; kernel_rfl) (by decide +kernel) (by decide +kernel) (by decide +kernel)
    (by first | exact .inl (by decide +kernel) | exact .inr (by decide +kernel)) (by rw [isSubtype_type]; kernel_rfl)
theorem type_span : typeOf (.builtin "re.Match.span") = pure (.type "method_descriptor") := by show builtinType _ = _; rw [builtinType_eq_fast]; kernel_rfl
theorem entry_span : entryFor table "re.Match.span" = some Builtin.«re.Match.span» := entryFor_of_tree (by kernel_rfl)
theorem args_span (a b : Value) : argsOk "re.Match.span" ⟨[a, b], []⟩ := by unfold argsOk; kernel_rfl
theorem slot_group : Slot "re.Match" "group" "re.Match.group" :=
  .of (owner := "re.Match") (n := "group") (by rw [typeLookup_type, builtinLookup_eq_fast]; kernel_rfl) (by decide +kernel) (by decide +kernel) (by decide +kernel)
    (by first | exact .inl (by decide +kernel) | exact .inr (by decide +kernel)) (by rw [isSubtype_type]; kernel_rfl)
theorem type_group : typeOf (.builtin "re.Match.group") = pure (.type "method_descriptor") := by show builtinType _ = _; rw [builtinType_eq_fast]; kernel_rfl
theorem entry_group : entryFor table "re.Match.group" = some Builtin.«re.Match.group» := entryFor_of_tree (by kernel_rfl)
theorem args_group (a b : Value) : argsOk "re.Match.group" ⟨[a, b], []⟩ := by unfold argsOk; kernel_rfl
theorem noBool_match : typeLookup (.type "re.Match") "__bool__" = pure none := by rw [typeLookup_type, builtinLookup_eq_fast]; kernel_rfl
theorem noLen_match : typeLookup (.type "re.Match") "__len__" = pure none := by rw [typeLookup_type, builtinLookup_eq_fast]; kernel_rfl
end Mine
end

section
open PySem PySem.W PyProof.Rows PySem.Calls PySem.Sre
set_option Elab.async false
set_option maxRecDepth 100000
namespace Mine
section
variable {prog : Program} {w : World} {A : Around} {E : Value → Shared → Prop} {s : Shared}
theorem drive {Q : M → Shared → Prop} : ∀ (turns n : Nat) (m : M), n ≤ 4 * turns → (M.runFor n m).outcome.isSome = true → Q (M.runFor n m) s → 0 < turns → wpAny (model prog w) A (Builtin.Re.reDrive turns m) Q E s
  | 0, _, _, _, _, _, h => absurd h (Nat.lt_irrefl _)
  | t + 1, n, m, hn, ho, hq, _ => by
    show wpAny _ _ (if (M.runFor 4 m).outcome.isSome = true then pure (M.runFor 4 m) else (do rule "sre.turn"; Builtin.Re.reDrive t (M.runFor 4 m))) _ _ _
    by_cases h4 : (M.runFor 4 m).outcome.isSome = true
    · rw [if_pos h4]
      have e : M.runFor 4 m = M.runFor n m := by
        by_cases hle : n ≤ 4
        · have e4 : 4 = n + (4 - n) := by omega
          rw [e4, runFor_add, runFor_some ho]
        · obtain ⟨k, rfl⟩ : ∃ k, n = 4 + k := ⟨n - 4, by omega⟩
          rw [runFor_add, runFor_some h4]
      rw [e]
      exact wpAny_pure hq
    · rw [if_neg h4]
      have hgt : 4 < n := by
        refine Nat.lt_of_not_le fun hle => h4 ?_
        have : M.runFor 4 m = M.runFor n m := by
          have e4 : 4 = n + (4 - n) := by omega
          rw [e4, runFor_add, runFor_some ho]
        rw [this]; exact ho
      have e : M.runFor n m = M.runFor (n - 4) (M.runFor 4 m) := by
        rw [← runFor_add]; congr 1; omega
      rw [e] at ho hq
      refine wpAny_bind (wpAny_rule (drive t (n - 4) _ (by omega) ho hq ?_))
      rcases Nat.eq_zero_or_pos t with rfl | h
      · omega
      · exact h
theorem toEnd {Q : Option M → Shared → Prop} {m : M} {k : Nat} {P : M → Prop} (h : Ends m k P) (hk : k ≤ 4 * 2 ^ 64)
    (hq : ∀ m', P m' → (m'.outcome = some .matched → Q (some m') s) ∧ (m'.outcome = some .failed → Q none s) ∧ (m'.outcome = some .matched ∨ m'.outcome = some .failed)) : wpAny (model prog w) A (Builtin.Re.reRunToEnd m) Q E s := by
  obtain ⟨n, hn, ho, hp⟩ := h
  unfold Builtin.Re.reRunToEnd
  refine wpAny_bind (drive _ n m (by omega) ho ?_ (by decide))
  generalize M.runFor n m = m' at hp
  obtain ⟨h1, h2, h3⟩ := hq m' hp
  refine wpAny_bind (wpAny_forIn_list _ (fun _ _ s' => s' = s) _ ?_ ?_ _ _ rfl)
  · rintro x rest b s' rfl
    by_cases hx : m'.seen.has x = true
    · rw [if_pos hx]
      exact wpAny_bind (wpAny_rule (wpAny_pure rfl))
    · rw [if_neg hx]
      exact wpAny_pure rfl
  · rintro b s' rfl
    rcases h3 with e | e
    · rw [e]; exact wpAny_pure (h1 e)
    · rw [e]; exact wpAny_pure (h2 e)
/-- a compiled pattern: its code, its groups -/
def IsPat (h : Heap) (p : Addr) (code : Array Nat) (groups : Nat) : Prop := ∃ (o : Obj) (vs : Array Value) (c : Addr) (oc : Obj) (cs : Array Value) (e : Nat), h.get? p = some o ∧ o.cls = .type "re.Pattern" ∧ o.dict = none ∧ o.data = .fields vs ∧
  Builtin.Re.reRawNat (vs.getD 6 .none) = 0 ∧ Builtin.Re.reRawNat (vs.getD 2 .none) = groups ∧ vs.getD 5 .none = .ref c ∧ h.get? c = some oc ∧ oc.data = .seq cs e ∧ (cs.map Builtin.Re.reRawOf).map (·.toNat) = code
theorem target {p : Addr} {code : Array Nat} {groups : Nat} {x : Str} {t : Tok} {Q : Builtin.Re.ReTarget → Shared → Prop} (hp : IsPat s.heap p code groups) (hx : x.cps.size ≤ 1000000)
    (h : Q { pattern := .ref p, string := .str x t, code := code, text := x.cps, kind := 0, groups := groups, pos := 0, lim := x.cps.size } s) :
    wpAny (model prog w) A (Builtin.Re.reTarget "re.Pattern.search" "search" ⟨[.ref p, .str x t], []⟩) Q E s := by
  obtain ⟨o, vs, c, oc, cs, e, ho, hcl, hdi, hd, h6, h2, h5, hoc, hcd, hcode⟩ := hp
  unfold Builtin.Re.reTarget
  refine wpAny_bind (m := Builtin.Re.reNamed _ _ _ _ _ _) (wpAny_of_eq (a := [some (.str x t), none, none]) rfl ?_)
  refine wpAny_bind (wpAny_pure ?_)
  refine wpAny_bind (wpAny_pure ?_)
  refine wpAny_bind (m := fieldsOf _) ?_
  refine wpAny_bind (wpAny_load ho ?_)
  rw [hd]
  refine wpAny_pure ?_
  refine wpAny_bind (m := Builtin.Re.reTextOf _) (wpAny_bind (wpAny_pure (wpAny_pure ?_)))
  show wpAny _ _ (if (Builtin.Re.reRawNat (vs.getD 6 .none) == 0 && (0 : Nat) == 1) = true then _ else _) _ _ _
  rw [if_neg (by simp)]
  show wpAny _ _ (if (Builtin.Re.reRawNat (vs.getD 6 .none) == 1 && (0 : Nat) == 0) = true then _ else _) _ _ _
  rw [if_neg (by rw [h6]; simp)]
  refine wpAny_bind (m := Builtin.Re.reNoCollectionInside _ _) (wpAny_pure ?_)
  refine wpAny_bind (m := Builtin.Re.reRawItems _) ?_
  rw [h5]
  refine wpAny_bind (wpAny_seqItems hoc hcd (wpAny_pure ?_))
  refine wpAny_pure ?_
  have e1 : min (0 : Int).toNat x.cps.size = 0 := by simp
  have e2 : min ((2 : Int) ^ 63 - 1).toNat x.cps.size = x.cps.size := by
    apply Nat.min_eq_right
    have : ((2 : Int) ^ 63 - 1).toNat = 9223372036854775807 := by decide
    omega
  show Q { pattern := .ref p, string := .str x t, code := (cs.map Builtin.Re.reRawOf).map (·.toNat), text := x.cps, kind := 0, groups := Builtin.Re.reRawNat (vs.getD 2 .none), pos := min (0 : Int).toNat x.cps.size, lim := min ((2 : Int) ^ 63 - 1).toNat x.cps.size } s
  rw [e1, e2, hcode, h2]
  exact h
theorem forI (T : Array Nat) (n : Nat) : ∃ sn : Sre.Seen, Sre.forSearch codeI T 0 0 n false = if n < 2 then { (stA codeI T n 0 true #[] 0 sn) with answer := some false, frames := [], weight := 0, outermost := true, lastStart := 0 } else stA codeI T n 0 true #[] 0 sn := by
  refine ⟨({} : Sre.Seen).add 14, ?_⟩
  by_cases h : n < 2
  · rw [if_pos h]
    show (if (decide (0 > n) || decide (n - 0 < 2)) = true then _ else _) = _
    rw [if_pos (by simp; omega)]
    rfl
  · rw [if_neg h]
    show (if (decide (0 > n) || decide (n - 0 < 2)) = true then _ else _) = _
    rw [if_neg (by simp; omega)]
    rfl
theorem anyHit_short {T : Array Nat} {n : Nat} (h : n < 2) : anyHit T n n 0 = false := by
  have : n = 0 ∨ n = 1 := by omega
  rcases this with rfl | rfl
  · rfl
  · simp [anyHit, hitB, digs]
theorem endI (T : Array Nat) (n : Nat) (hn : n ≤ 1000000) {P : M → Prop} (hp : ∀ m : M, m.outcome = (if anyHit T n n 0 then some .matched else some .failed) → (anyHit T n n 0 = true → m.lastmark = -1) → P m) : Ends (Sre.forSearch codeI T 0 0 n false) (n * 3000000 + 3) P := by
  obtain ⟨sn, e⟩ := forI T n
  rw [e]
  by_cases h : n < 2
  · rw [if_pos h]
    refine Ends.mono (k := 1) ?_ (by omega)
    refine .step (k := 0) rfl (step_fin (yes := false) rfl rfl rfl) (.now rfl (hp _ ?_ ?_))
    · rw [anyHit_short h]; rfl
    · rw [anyHit_short h]; intro e; cases e
  · rw [if_neg h]
    exact searchI hn n 0 true #[] 0 sn (by omega) hp
theorem search_I {p : Addr} {x : Str} {t : Tok} {Q : Value → Shared → Prop} (hp : IsPat s.heap p codeI 0) (hx : x.cps.size ≤ 1000000)
    (no : anyHit x.cps x.cps.size x.cps.size 0 = false → Q .none s)
    (yes : anyHit x.cps x.cps.size x.cps.size 0 = true → ∀ d h', (∀ b o, s.heap.get? b = some o → h'.get? b = some o) → s.heap.get? d = none → (∃ o, h'.get? d = some o ∧ o.cls = .type "re.Match") → Q (.ref d) { s with heap := h' }) :
    wpAny (model prog w) A (call (.builtin "re.Pattern.search") [.ref p, .str x t]) Q E s := by
  have hT : s.TypeIs (.ref p) "re.Pattern" := let ⟨o, _, _, _, _, _, ho, hc, _⟩ := hp; ⟨o, ho, hc⟩
  refine wpAny_call_entry slot_search hT entry_search ?_ (args_search _ _)
  show wpAny _ _ (Builtin.Re.reTarget "re.Pattern.search" "search" ⟨[.ref p, .str x t], []⟩ >>= _) _ _ _
  refine wpAny_bind (target hp hx ?_)
  show wpAny _ _ (Builtin.Re.reRunToEnd (Sre.forSearch codeI x.cps 0 0 x.cps.size false) >>= _) _ _ _
  refine wpAny_bind (toEnd (P := fun m => m.outcome = (if anyHit x.cps x.cps.size x.cps.size 0 then some .matched else some .failed) ∧ (anyHit x.cps x.cps.size x.cps.size 0 = true → m.lastmark = -1)) (endI x.cps x.cps.size hx fun m h1 h2 => ⟨h1, h2⟩) (by omega) ?_)
  rintro m ⟨ho, hl⟩
  cases ha : anyHit x.cps x.cps.size x.cps.size 0 with
  | false =>
    rw [ha] at ho
    refine ⟨fun e => ?_, fun _ => wpAny_pure ⟨_, rfl, no ha⟩, .inr ho⟩
    rw [ho] at e; cases e
  | true =>
    rw [ha] at ho
    refine ⟨fun _ => ?_, fun e => ?_, .inl ho⟩
    · refine wpAny_bind (m := Builtin.Re.reNewMatch _ _ _ _ _ _) ?_
      unfold Builtin.Re.reNewMatch
      refine wpAny_bind (wpAny_newObj_type (wpAny_newObj_type (wpAny_pure ⟨_, rfl, ?_⟩)) ?z1)
      case z1 => show (2 : Nat) ≤ sizeLine; rw [sizeLine_eq]; omega
      refine yes ha _ _ (fun b o e => Heap.get?_push_of_some _ (Heap.get?_push_of_some _ e)) ?_ ⟨_, Heap.get?_push_size _ rfl, rfl⟩
      rw [Heap.size_push]
      exact Heap.get?_none_of_le (Nat.le_succ _)
    · rw [ho] at e; cases e
theorem pat_search {p : Addr} {code : Array Nat} {groups : Nat} {pl : Sem Bool} {Q : Value × List Value → Shared → Prop} (hp : IsPat s.heap p code groups) (h : Q (.builtin "re.Pattern.search", [.ref p]) s) :
    wpAny (model prog w) A (getMethod (.ref p) "search" pl) Q E s := by
  obtain ⟨o, _, _, _, _, _, ho, hc, hd, _⟩ := hp
  exact getMethod_builtin ⟨o, ho, hc⟩ pa_pat slot_search type_search (fun a e => by cases e; exact ⟨o, ho, hd⟩) h
theorem truthy_match {d : Addr} {Q : Bool → Shared → Prop} (hd : ∃ o, s.heap.get? d = some o ∧ o.cls = .type "re.Match") (h : Q true s) : wpAny (model prog w) A (truthy (.ref d)) Q E s := by
  obtain ⟨o, ho, hc⟩ := hd
  have hT : s.TypeIs (.ref d) "re.Match" := ⟨o, ho, hc⟩
  unfold truthy
  first
    | refine wpAny_bind (wpAny_callSpecial?_none (name := Str.ofString "__bool__") hT noBool_match ?_)
    | refine wpAny_bind (wpAny_pure (wpAny_bind (wpAny_callSpecial?_none (name := Str.ofString "__bool__") hT noBool_match ?_)))
  first
    | refine wpAny_bind (wpAny_specialOf (name := Str.ofString "__len__") hT noLen_match ?_)
    | refine wpAny_bind (wpAny_pure (wpAny_bind (wpAny_specialOf (name := Str.ofString "__len__") hT noLen_match ?_)))
  exact wpAny_pure h
end
end Mine
end

section
open PySem PySem.W PyProof.Rows PySem.Calls
set_option Elab.async false
set_option maxRecDepth 100000
namespace Mine
section
variable {prog : Program} {w : World} {A : Around} {E : Value → Shared → Prop} {s : Shared} {env : Env} {h₀ : Heap} {m : Str → Option Value} {news : List (Addr × Obj)} {xi xc : Str} {Q : Flow → Shared → Prop} {xv : Value}
def PrefJ (P : Nat → Prop) (m : Str → Option Value) (news : List (Addr × Obj)) (xi xc : Str) (i : Nat) (m' : Str → Option Value) (n' : List (Addr × Obj)) : Prop := n' = news ∧ (∃ vi vc, m' = bindM (bindM m xi vi) xc vc) ∧ P i
theorem pair_pref {α : Type} {K : ItemKind α} {as : List α} {body : List Stmt} (S : PairSrc prog w A E h₀ env K as xv s m news) (P : Nat → Prop) (h0 : P 0)
    (turn : ∀ (i : Nat) a t v h tk own, as[i]? = some a → K.is a v → P i → Fr h₀ env.locals h (bindM (bindM m xi (some (.int i t))) xc (some v)) → News h₀ env.locals h (own ++ news) →
      wpAny (model prog w) A (execs body env) (LoopStep3 h₀ env.locals own news (PrefJ P m news xi xc (i + 1)) { s with heap := h, toks := tk } (fun v s' => Q (.ret v) s') fun s' => Q .next s') E { s with heap := h, toks := tk })
    (done : ∀ h' tk vi vc, Fr h₀ env.locals h' (bindM (bindM m xi vi) xc vc) → News h₀ env.locals h' news → P as.length → Q .next { s with heap := h', toks := tk }) :
    wpAny (model prog w) A (pyIter xv) (fun it s₂ => PairAt3 prog w A h₀ env xi xc body Q E it s₂) E s := by
  refine S xi xc _ Q (PrefJ P m news xi xc) ⟨rfl, ⟨m xi, m xc, ?_⟩, h0⟩ (fun i a t v m₁ news₁ s₁ own hs₁ ha hk hJ _ _ F₁ N₁ => ?_) (fun h' tk m' news' F' N' _ hJ => ?_)
  · funext y
    unfold bindM
    by_cases h1 : y = xc
    · subst h1; simp
    · by_cases h2 : y = xi
      · subst h2; simp [h1]
      · simp [h1, h2]
  · obtain ⟨rfl, ⟨vi, vc, rfl⟩, hp⟩ := hJ
    obtain ⟨h, tk, rfl⟩ := hs₁
    rw [bind2_find] at F₁
    exact turn i a t v h tk own ha hk hp F₁ N₁
  · obtain ⟨rfl, ⟨vi, vc, rfl⟩, hp⟩ := hJ
    exact done h' tk vi vc F' N' hp
theorem pref_next {P : Nat → Prop} {own : List (Addr × Obj)} {i : Nat} {s₁ : Shared} {h' : Heap} {tk : Nat} {vi vc : Option Value} {Qr : Value → Shared → Prop} {Qb : Shared → Prop} {L : Addr}
    (F : Fr h₀ L h' (bindM (bindM m xi vi) xc vc)) (N : News h₀ L h' (own ++ news)) (hp : P i) : LoopStep3 h₀ L own news (PrefJ P m news xi xc i) s₁ Qr Qb .next { s₁ with heap := h', toks := tk } :=
  LoopStep2.intro F N rfl ⟨rfl, ⟨_, _, rfl⟩, hp⟩
end
end Mine
end

section
open PySem PySem.W PyProof.Rows PySem.Calls
set_option Elab.async false
set_option maxRecDepth 100000
namespace Mine
theorem kI {P : Params} : (Mine.fr.heap_1 P).lookup 140 = some { cls := .type "re.Pattern", data := .fields #[.str (Str.ofString "\\.\\d+$") 617, .int 256 644, .int 0 0, .none, .none, .ref 139, .int 0 0] } := by kernel_rfl
theorem kIc {P : Params} : (Mine.fr.heap_1 P).lookup 139 = some { cls := .type "tuple", data := .seq #[.int 14 0, .int 8 0, .int 1 0, .int 2 0, .int 4294967295 0, .int 1 0, .int 1 0, .int 46 0, .int 0 0, .int 16 0, .int 46 0, .int 24 0, .int 9 0, .int 1 0, .int 4294967295 0, .int 13 0, .int 4 0, .int 8 0, .int 0 0, .int 0 0, .int 1 0, .int 6 0, .int 5 0, .int 1 0] } := by kernel_rfl
theorem patI {P : Params} {g h : Heap} {L : Addr} {m : Str → Option Value} (X : (Mine.fr.heap_1 P).In g) (F : Fr g L h m) : IsPat h 140 codeI 0 :=
  ⟨_, _, 139, _, _, _, F.keep _ _ (X _ _ kI), rfl, rfl, rfl, rfl, rfl, rfl, F.keep _ _ (X _ _ kIc), rfl, by decide +kernel⟩
theorem kE {P : Params} : (Mine.fr.heap_1 P).lookup 152 = some { cls := .type "re.Pattern", data := .fields #[.str (Str.ofString "%([0-9a-fA-F][0-9a-fA-F])") 654, .int 32 697, .int 1 0, .none, .none, .ref 151, .int 0 0] } := by kernel_rfl
theorem kEc {P : Params} : (Mine.fr.heap_1 P).lookup 151 = some { cls := .type "tuple", data := .seq #[.int 14 0, .int 8 0, .int 1 0, .int 3 0, .int 3 0, .int 1 0, .int 1 0, .int 37 0, .int 0 0, .int 16 0, .int 37 0, .int 17 0, .int 0 0, .int 13 0,
    .int 11 0, .int 9 0, .int 0 0, .int 67043328 0, .int 126 0, .int 126 0, .int 0 0, .int 0 0, .int 0 0, .int 0 0, .int 0 0, .int 13 0, .int 11 0, .int 9 0, .int 0 0, .int 67043328 0, .int 126 0, .int 126 0, .int 0 0, .int 0 0, .int 0 0, .int 0 0, .int 0 0, .int 17 0, .int 1 0, .int 1 0] } := by kernel_rfl
theorem patE {P : Params} {g h : Heap} {L : Addr} {m : Str → Option Value} (X : (Mine.fr.heap_1 P).In g) (F : Fr g L h m) : IsPat h 152 codeE 1 :=
  ⟨_, _, 151, _, _, _, F.keep _ _ (X _ _ kE), rfl, rfl, rfl, rfl, rfl, rfl, F.keep _ _ (X _ _ kEc), rfl, by decide +kernel⟩
end Mine
end

section
open PySem PySem.W PyProof.Rows PySem.Calls PySem.Sre
set_option Elab.async false
set_option maxRecDepth 100000
namespace Mine
theorem forE (T : Array Nat) (n : Nat) : ∃ sn : Sre.Seen, Sre.forSearch codeE T 1 0 n false = if n < 3 then { (stA codeE T n 0 true #[none, none] 0 sn) with answer := some false, frames := [], weight := 0, outermost := true, lastStart := 0 } else stA codeE T n 0 true #[none, none] 0 sn := by
  refine ⟨({} : Sre.Seen).add 14, ?_⟩
  by_cases h : n < 3
  · rw [if_pos h]
    show (if (decide (0 > n) || decide (n - 0 < 3)) = true then _ else _) = _
    rw [if_pos (by simp; omega)]
    rfl
  · rw [if_neg h]
    show (if (decide (0 > n) || decide (n - 0 < 3)) = true then _ else _) = _
    rw [if_neg (by simp; omega)]
    rfl
/-- no sign 37 from s on: the search fails -/
theorem searchE_no {T : Array Nat} {n : Nat} {P : M → Prop} (hp : ∀ m : M, m.outcome = some .failed → P m) : ∀ (f s : Nat) (b : Bool) (mk : Array (Option Nat)) (h : Nat) (sn : Sre.Seen), s + f = n → (∀ j, s ≤ j → j < n → T.getD j 0 ≠ 37) →
    Ends (stA codeE T n s b mk h sn) (f * 2 + 3) P
  | 0, s, b, mk, h, sn, hf, _ => (at_end hasLitE (by omega) hp).mono (by omega)
  | f + 1, s, b, mk, h, sn, hf, hn => (skip hasLitE (by omega) (hn s (Nat.le_refl _) (by omega)) fun sn' => searchE_no hp f (s + 1) false mk (s + 1) sn' (by omega) fun j h1 h2 => hn j (by omega) h2).mono (by omega)
theorem searchE_yes {T : Array Nat} {n q : Nat} {P : M → Prop} (hq : q + 2 < n) (h0 : T.getD q 0 = 37) (h1 : T.getD (q + 1) 0 ∈ hexs) (h2 : T.getD (q + 2) 0 ∈ hexs)
    (hp : ∀ m : M, m.outcome = some .matched → m.start = q → m.handed = q + 3 → m.lastmark = 1 → m.marks.getD 0 none = some (q + 1) → m.marks.getD 1 none = some (q + 3) → P m) :
    ∀ (f s : Nat) (b : Bool) (mk : Array (Option Nat)) (h : Nat) (sn : Sre.Seen), s + f = q → mk.size = 2 → (∀ j, s ≤ j → j < q → T.getD j 0 ≠ 37) → Ends (stA codeE T n s b mk h sn) (f * 2 + 8) P
  | 0, s, b, mk, h, sn, hf, hm, _ => by
    obtain rfl : s = q := by omega
    exact (foundE hq h0 h1 h2 hm hp).mono (by omega)
  | f + 1, s, b, mk, h, sn, hf, hm, hn => (skip hasLitE (by omega) (hn s (Nat.le_refl _) (by omega)) fun sn' => searchE_yes hq h0 h1 h2 hp f (s + 1) false mk (s + 1) sn' (by omega) hm fun j h1 h2 => hn j (by omega) h2).mono (by omega)
section
variable {prog : Program} {w : World} {A : Around} {E : Value → Shared → Prop} {s : Shared}
/-- a match of the escape at q in x -/
def IsMatch (h : Heap) (d : Addr) (x : Str) (q : Nat) : Prop := ∃ (o : Obj) (t : Tok) (p : Value) (n li : Int) (tp : Addr) (ot : Obj) (e : Nat), h.get? d = some o ∧ o.cls = .type "re.Match" ∧ o.dict = none ∧ o.data = .fields #[.str x t, p, rawInt 0, rawInt n, rawInt li, .ref tp] ∧
  h.get? tp = some ot ∧ ot.data = .seq #[rawInt (q : Nat), rawInt ((q + 3 : Nat) : Int), rawInt ((q + 1 : Nat) : Int), rawInt ((q + 3 : Nat) : Int)] e
theorem IsMatch.keep {h h' : Heap} {d : Addr} {x : Str} {q : Nat} (m : IsMatch h d x q) (k : ∀ b o, h.get? b = some o → h'.get? b = some o) : IsMatch h' d x q :=
  let ⟨o, t, p, n, li, tp, ot, e, h1, h2, h3, h4, h5, h6⟩ := m; ⟨o, t, p, n, li, tp, ot, e, k _ _ h1, h2, h3, h4, k _ _ h5, h6⟩
/-- the two objects of a match -/
def IsMO (o : Obj) (tp : Addr) (ot : Obj) (x : Str) (q : Nat) : Prop := o.isFreed = false ∧ ot.isFreed = false ∧ ∃ (t : Tok) (p : Value) (n li : Int) (e : Nat), o.cls = .type "re.Match" ∧ o.dict = none ∧ o.data = .fields #[.str x t, p, rawInt 0, rawInt n, rawInt li, .ref tp] ∧
  ot.data = .seq #[rawInt (q : Nat), rawInt ((q + 3 : Nat) : Int), rawInt ((q + 1 : Nat) : Int), rawInt ((q + 3 : Nat) : Int)] e
theorem isMatch_of {h : Heap} {d tp : Addr} {o ot : Obj} {x : Str} {q : Nat} (m : IsMO o tp ot x q) (h1 : h.get? d = some o) (h2 : h.get? tp = some ot) : IsMatch h d x q :=
  let ⟨_, _, t, p, n, li, e, a, b, c, f⟩ := m; ⟨o, t, p, n, li, tp, ot, e, h1, a, b, c, h2, f⟩
theorem search_E {p : Addr} {x : Str} {t : Tok} {Q : Value → Shared → Prop} (hp : IsPat s.heap p codeE 1) (hx : x.cps.size ≤ 1000000)
    (h : ((∀ j, j < x.cps.size → x.cps.getD j 0 ≠ 37) ∧ Q .none s) ∨
      (∃ q, q + 2 < x.cps.size ∧ x.cps.getD q 0 = 37 ∧ x.cps.getD (q + 1) 0 ∈ hexs ∧ x.cps.getD (q + 2) 0 ∈ hexs ∧ (∀ j, j < q → x.cps.getD j 0 ≠ 37) ∧
        ∀ o1 o2, IsMO o2 s.heap.objs.size o1 x q → Q (.ref (s.heap.push o1).objs.size) { s with heap := (s.heap.push o1).push o2 })) :
    wpAny (model prog w) A (call (.builtin "re.Pattern.search") [.ref p, .str x t]) Q E s := by
  have hT : s.TypeIs (.ref p) "re.Pattern" := let ⟨o, _, _, _, _, _, ho, hc, _⟩ := hp; ⟨o, ho, hc⟩
  refine wpAny_call_entry slot_search hT entry_search ?_ (args_search _ _)
  show wpAny _ _ (Builtin.Re.reTarget "re.Pattern.search" "search" ⟨[.ref p, .str x t], []⟩ >>= _) _ _ _
  refine wpAny_bind (target hp hx ?_)
  show wpAny _ _ (Builtin.Re.reRunToEnd (Sre.forSearch codeE x.cps 1 0 x.cps.size false) >>= _) _ _ _
  obtain ⟨sn, e⟩ := forE x.cps x.cps.size
  rw [e]
  rcases h with ⟨hno, hq⟩ | ⟨q, hq2, h0, h1, h2, hlt, hq⟩
  · refine wpAny_bind (toEnd (k := x.cps.size * 2 + 3) (P := fun m => m.outcome = some .failed) ?_ (by omega) ?_)
    · by_cases h3 : x.cps.size < 3
      · rw [if_pos h3]
        exact Ends.mono (k := 1) (.step (k := 0) rfl (step_fin (yes := false) rfl rfl rfl) (.now rfl rfl)) (by omega)
      · rw [if_neg h3]
        exact searchE_no (fun _ h => h) x.cps.size 0 true #[none, none] 0 sn (by omega) fun j _ hj => hno j hj
    · intro m ho
      refine ⟨fun e => ?_, fun _ => wpAny_pure ⟨_, rfl, hq⟩, .inr ho⟩
      rw [ho] at e; cases e
  · refine wpAny_bind (toEnd (k := q * 2 + 8) (P := fun m => m.outcome = some .matched ∧ m.start = q ∧ m.handed = q + 3 ∧ m.lastmark = 1 ∧ m.marks.getD 0 none = some (q + 1) ∧ m.marks.getD 1 none = some (q + 3)) ?_ (by omega) ?_)
    · rw [if_neg (by omega)]
      exact searchE_yes hq2 h0 h1 h2 (fun m a b c d e f => ⟨a, b, c, d, e, f⟩) q 0 true #[none, none] 0 sn (by omega) rfl fun j _ hj => hlt j hj
    · rintro m ⟨ho, hs, hh, hl, hm0, hm1⟩
      refine ⟨fun _ => ?_, fun e => ?_, .inl ho⟩
      · refine wpAny_bind (m := Builtin.Re.reNewMatch _ _ _ _ _ _) ?_
        unfold Builtin.Re.reNewMatch
        have r1 : List.range 1 = [0] := rfl
        simp only [r1, List.any_cons, List.any_nil, List.flatMap_cons, List.flatMap_nil, Nat.mul_zero, Nat.zero_add, hl, hm0, hm1, hs, hh]
        have hc : ((1 : Nat) : Int) ≤ 1 := by decide
        have hd : ¬ (q + 3 < q + 1) := by omega
        simp only [hc, if_true, hd, decide_true, decide_false, Bool.and_false, Bool.or_false, Bool.false_eq_true, if_false]
        refine wpAny_bind (wpAny_newObj_type (wpAny_newObj_type (wpAny_pure ⟨_, rfl, ?_⟩)) ?z1)
        case z1 => show (4 : Nat) ≤ sizeLine; rw [sizeLine_eq]; omega
        exact hq _ _ ⟨rfl, rfl, t, _, _, _, 0, rfl, rfl, rfl, rfl⟩
      · rw [ho] at e; cases e
theorem match_method {d : Addr} {x : Str} {q : Nat} {name : Str} {id : String} {pl : Sem Bool} {Q : Value × List Value → Shared → Prop} (slot : Slot "re.Match" name id) (hty : typeOf (.builtin id) = pure (.type "method_descriptor")) (hm : IsMatch s.heap d x q)
    (h : Q (.builtin id, [.ref d]) s) : wpAny (model prog w) A (getMethod (.ref d) name pl) Q E s := by
  obtain ⟨o, _, _, _, _, _, _, _, ho, hc, hd, _⟩ := hm
  exact getMethod_builtin ⟨o, ho, hc⟩ pa_match slot hty (fun a e => by cases e; exact ⟨o, ho, hd⟩) h
theorem found_ {d : Addr} {x : Str} {q : Nat} {Q : Builtin.Re.ReFound → Shared → Prop} (hm : IsMatch s.heap d x q)
    (h : ∀ t p n li tp, Q { fields := #[.str x t, p, rawInt 0, rawInt n, rawInt li, .ref tp], spans := #[(q : Nat), ((q + 3 : Nat) : Int), ((q + 1 : Nat) : Int), ((q + 3 : Nat) : Int)] } s) : wpAny (model prog w) A (Builtin.Re.reFound (.ref d)) Q E s := by
  obtain ⟨o, t, p, n, li, tp, ot, e, ho, hc, hdi, hd, htp, hdt⟩ := hm
  unfold Builtin.Re.reFound
  refine wpAny_bind (m := fieldsOf _) (wpAny_bind (wpAny_load ho ?_))
  rw [hd]
  refine wpAny_pure ?_
  refine wpAny_bind (m := Builtin.Re.reRawItems _) (wpAny_bind (wpAny_seqItems htp hdt (wpAny_pure (wpAny_pure ?_))))
  have := h t p n li tp
  simpa [Builtin.Re.reRawOf, rawInt] using this
theorem match_span {d : Addr} {x : Str} {q : Nat} {u : Tok} {Q : Value → Shared → Prop} (hm : IsMatch s.heap d x q)
    (h : ∀ t1 t2 tk, Q (.ref s.heap.objs.size) { s with heap := s.heap.push { cls := .type "tuple", data := .seq [Value.int (q : Nat) t1, Value.int ((q + 3 : Nat) : Int) t2].toArray }, toks := tk }) :
    wpAny (model prog w) A (call (.builtin "re.Match.span") [.ref d, .int 0 u]) Q E s := by
  have hT : s.TypeIs (.ref d) "re.Match" := let ⟨o, _, _, _, _, _, _, _, ho, hc, _⟩ := hm; ⟨o, ho, hc⟩
  refine wpAny_call_entry slot_span hT entry_span ?_ (args_span _ _)
  show wpAny _ _ (Builtin.Re.reOneGroup "Match.span" "span" ⟨[.ref d, .int 0 u], []⟩ >>= _) _ _ _
  refine wpAny_bind (m := Builtin.Re.reOneGroup _ _ _) ?_
  unfold Builtin.Re.reOneGroup
  refine wpAny_bind (wpAny_of_eq (show selfAndSome "Match.span" "span" 0 1 ⟨[.ref d, .int 0 u], []⟩ = pure (.ref d, [.int 0 u]) from rfl) ?_)
  refine wpAny_bind (found_ hm fun t p n li tp => ?_)
  refine wpAny_bind (m := Builtin.Re.reGroupNumber _ _) (wpAny_of_eq (a := 0) rfl ?_)
  refine wpAny_pure ?_
  refine wpAny_bind (wpAny_mkInt ?_)
  refine wpAny_bind (wpAny_mkInt ?_)
  exact wpAny_bind (wpAny_newObj_type (wpAny_pure ⟨_, rfl, h _ _ _⟩))
theorem match_group {d : Addr} {x : Str} {q : Nat} {u : Tok} {Q : Value → Shared → Prop} (hm : IsMatch s.heap d x q) (hx : x.cps.size ≤ 1000000)
    (h : ∀ t tk, Q (.str ⟨x.cps.extract (q + 1) (q + 3)⟩ t) { s with toks := tk }) :
    wpAny (model prog w) A (call (.builtin "re.Match.group") [.ref d, .int 1 u]) Q E s := by
  have hT : s.TypeIs (.ref d) "re.Match" := let ⟨o, _, _, _, _, _, _, _, ho, hc, _⟩ := hm; ⟨o, ho, hc⟩
  refine wpAny_call_entry slot_group hT entry_group ?_ (args_group _ _)
  show wpAny _ _ (noKeywords "Match.group" ⟨[.ref d, .int 1 u], []⟩ >>= _) _ _ _
  refine wpAny_bind (m := noKeywords _ _) (wpAny_pure ?_)
  refine wpAny_bind (found_ hm fun t p n li tp => ?_)
  refine wpAny_bind (m := Builtin.Re.reGroupNumber _ _) (wpAny_of_eq (a := 1) rfl ?_)
  refine wpAny_bind (m := Builtin.Re.reGroupText _ _ _) ?_
  unfold Builtin.Re.reGroupText
  show wpAny _ _ (if (decide (((q + 1 : Nat) : Int) < 0) || decide (((q + 3 : Nat) : Int) < 0)) = true then _ else _) _ _ _
  rw [if_neg (by simp; omega)]
  refine wpAny_bind (m := Builtin.Re.reTextOf _) (wpAny_bind (wpAny_pure (wpAny_pure ?_)))
  show wpAny _ _ (mkStr ⟨x.cps.extract (q + 1) (q + 3)⟩) _ _ _
  refine wpAny_mkStr (wpAny_pure ⟨_, rfl, h _ _⟩) ?_
  show (x.cps.extract (q + 1) (q + 3)).size ≤ sizeLine
  rw [sizeLine_eq, Array.size_extract]
  omega
end
end Mine
end

section
open PySem PySem.W PyProof.Rows PySem.Calls
set_option Elab.async false
set_option maxRecDepth 100000
set_option linter.unusedVariables false
namespace Mine
local macro_rules | `(tactic| walk_at "mine enter") => `(tactic| (refine' Mine.enterF ?k1 ?k2 ?k3 ?k5 ?kA ?kF ?kK ?k6 ?k7 ?k8 ?k9 ?kB ?_ ?c2 ?c3 ?c4 ?c5; (case kA => exact rfl); (case kF => exact rfl); (case kK => assumption); (case k1 => k_asm); (case k2 => k_asm); (case k3 => k_asm); (case k5 => k_asm); (case k6 => k_is); (case k7 => k_is); (case k8 => ktr_room); (case k9 => exact BindsTo.of_eq rfl); (case c5 => decide); (case kB => exact locs rfl); (case c2 => exact rfl); (case c3 => exact rfl); (case c4 => exact rfl); k_whole))
local macro_rules | `(tactic| units_room) => `(tactic| (have hcL' := cLine_is; simp only [units_in1, units_deeper, Around.mark_units, units_caller]; dsimp only [ktrTop]; omega))

def upc (c : Nat) : Nat := if 97 ≤ c ∧ c ≤ 122 then c - 32 else c
theorem up2 {c1 c2 : Nat} (h1 : c1 ∈ hexs) (h2 : c2 ∈ hexs) : Txt.upper ⟨#[c1, c2]⟩ = ⟨#[upc c1, upc c2]⟩ ∧ PySem.Builtin.Str.tooLong (Txt.upper ⟨#[c1, c2]⟩).length = false :=
  (by decide +kernel : ∀ c1 ∈ hexs, ∀ c2 ∈ hexs, Txt.upper ⟨#[c1, c2]⟩ = ⟨#[upc c1, upc c2]⟩ ∧ PySem.Builtin.Str.tooLong (Txt.upper ⟨#[c1, c2]⟩).length = false) c1 h1 c2 h2

set_option maxHeartbeats 40000000 in
theorem upper_call {w : World} {s : Shared} {d : Addr} {x : Str} {q : Nat} {c1 c2 : Nat} (hm : IsMatch s.heap d x q) (hx : x.cps.size ≤ 1000000) (h1 : c1 ∈ hexs) (h2 : c2 ∈ hexs) (he : x.cps.extract (q + 1) (q + 3) = #[c1, c2]) :
   Cl w 159 3 400 [.ref d] s (fun h' r => ∃ t, r = .str ⟨#[37, upc c1, upc c2]⟩ t) := by
  unfold Cl
  k_with_none
  k_fill
  intro p loose mean mg mb dp un gd cn cs a ccd cl outer A₀ base h₀ L m Q E B F X T hk hd hu hret
  k_dflt (walk_at "mine enter")
  intro g' L' h' eg FG' F' N' B' X' T'
  rw [← eg] at hm
  try dsimp only
  try k_lift B'
  try k_fold
  k_steps
  refine match_method slot_group type_group (hm.keep (Fr.keep (by assumption))) ?_
  k_steps
  refine match_group (hm.keep (Fr.keep (by assumption))) hx fun tG kG => ?_
  rw [he]
  k_steps
  dsimp only
  refine KXw.upper (y := ⟨#[upc c1, upc c2]⟩) (up2 h1 h2).1 (up2 h1 h2).2 fun tU kU => ?_
  obtain ⟨y, ey⟩ : ∃ y : Str, y = ⟨#[upc c1, upc c2]⟩ := ⟨_, rfl⟩
  rw [← ey]
  have hy : y.length ≤ 1000000 := by rw [ey]; exact Nat.le_of_ble_eq_true rfl
  dsimp only
  refine' KPc.mod_str (X' := ⟨#[37, 37, 37, 115]⟩) ?kpcF ?kpcl ?kpcm ?_
  case kpcF => decide +kernel
  case kpcl => exact hy
  case kpcm => k_dflt kpc_run_s
  intro tM kM
  dsimp only
  k_steps
  (rename Fr g' _ _ _ => lF)
  refine hret _ _ _ (ext_of eg lF) ⟨tM, ?_⟩
  rw [ey]; rfl

end Mine
end

section
open PySem
namespace Mine
def greatL (ns : List Int) : List Nat := ns.flatMap (sgnL · true)
theorem great_append (a b : List Int) : greatL (a ++ b) = greatL a ++ greatL b := by simp [greatL]
def Plain (ns : List Int) : Prop := ∀ p ∈ ns, p ≠ 2 ∧ p ≠ 3
theorem sgn_plain {p : Int} (h : p ≠ 2 ∧ p ≠ 3) (e : Bool) : sgnL p e = sgnL p true ∧ ∀ c ∈ sgnL p e, c ≠ 37 := by
  obtain ⟨h2, h3⟩ := h
  unfold sgnL
  rw [if_neg h2, if_neg h2, if_neg h3, if_neg h3]
  refine ⟨rfl, ?_⟩
  (repeat' split) <;> simp
theorem laid_plain : ∀ {ns : List Int} (q : Int), Plain ns → laidL q ns = greatL ns ∧ ∀ c ∈ laidL q ns, c ≠ 37
  | [], q, _ => by simp [laidL, greatL]
  | p :: r, q, h => by
    have h1 := sgn_plain (h p (List.mem_cons_self ..)) (q % 2 == 0)
    have h2 := laid_plain (q + 1) (fun n hn => h n (List.mem_cons_of_mem _ hn) : Plain r)
    refine ⟨?_, ?_⟩
    · show sgnL p (q % 2 == 0) ++ laidL (q + 1) r = greatL (p :: r)
      rw [h1.1, h2.1]; simp [greatL]
    · intro c hc
      rcases List.mem_append.mp hc with hc | hc
      · exact h1.2 c hc
      · exact h2.2 c hc
theorem plain_or (ns : List Int) : Plain ns ∨ ∃ pre p post, ns = pre ++ p :: post ∧ (p = 2 ∨ p = 3) ∧ Plain pre := by
  induction ns with
  | nil => exact .inl fun p hp => nomatch hp
  | cons n r ih =>
    by_cases h : n = 2 ∨ n = 3
    · exact .inr ⟨[], n, r, rfl, h, fun p hp => nomatch hp⟩
    · rcases ih with ih | ⟨pre, p, post, e, hp, hpre⟩
      · refine .inl fun p hp => ?_
        rcases List.mem_cons.mp hp with rfl | hp
        · omega
        · exact ih p hp
      · refine .inr ⟨n :: pre, p, post, by rw [e]; rfl, hp, fun p hp => ?_⟩
        rcases List.mem_cons.mp hp with rfl | hp
        · omega
        · exact hpre p hp
theorem great_le (ns : List Int) : (greatL ns).length ≤ 3 * ns.length := by
  induction ns with
  | nil => simp [greatL]
  | cons n r ih =>
    have h1 := sgnL_len n true
    have : greatL (n :: r) = sgnL n true ++ greatL r := by simp [greatL]
    rw [this, List.length_append, List.length_cons]
    omega
theorem great_len {x : Str} {ns a b : List Int} (hn : ns.length ≤ 1000) (e : ns = a ++ b) (hx : x.cps.toList = greatL a) : x.length ≤ 10000 := by
  have h1 := great_le a
  have h2 : x.length = x.cps.toList.length := by simp [Str.length]
  rw [h2, hx]
  subst e
  simp only [List.length_append] at hn
  omega
theorem laid_len' {x : Str} {ns a b : List Int} {q : Int} (hn : ns.length ≤ 1000) (e : ns = a ++ b) (hx : x.cps.toList = laidL q b) : x.length ≤ 10000 := by
  have h1 := laidL_len b q
  have h2 : x.length = x.cps.toList.length := by simp [Str.length]
  rw [h2, hx]
  subst e
  simp only [List.length_append] at hn
  omega
theorem great_cut {x : Str} {ns a b : List Int} (e : ns = a ++ b) (hx : x.cps.toList = greatL ns) : ((greatL a).length : Int) + (greatL b).length = x.length := by
  have h2 : x.length = x.cps.toList.length := by simp [Str.length]
  rw [h2, hx, e, great_append, List.length_append]
  omega
/-- the two figures of an escape as laid at place q -/
theorem esc_of {p : Int} (h : p = 2 ∨ p = 3) (e : Bool) : ∃ c1 c2, sgnL p e = [37, c1, c2] ∧ c1 ∈ hexs ∧ c2 ∈ hexs ∧ sgnL p true = [37, upc c1, upc c2] := by
  rcases h with rfl | rfl <;> cases e
  · exact ⟨50, 100, by decide⟩
  · exact ⟨50, 68, by decide⟩
  · exact ⟨101, 98, by decide⟩
  · exact ⟨69, 66, by decide⟩
theorem no_pct {x : Str} {ns : List Int} {q : Int} (hp : Plain ns) (hx : x.cps.toList = laidL q ns) : (∀ j, j < x.cps.size → x.cps.getD j 0 ≠ 37) ∧ x.cps.toList = greatL ns := by
  obtain ⟨h1, h2⟩ := laid_plain q hp
  refine ⟨fun j hj => ?_, hx.trans h1⟩
  have e : x.cps.getD j 0 = x.cps[j] := by simp [hj]
  rw [e]
  apply h2
  rw [← hx]
  simp
/-- where the first escape of a text lies -/
structure Esc (x : Str) (q : Nat) (A : List Nat) (c1 c2 : Nat) (R : List Nat) : Prop where
  eq : x.cps.toList = A ++ 37 :: c1 :: c2 :: R
  len : A.length = q
  no : ∀ c ∈ A, c ≠ 37
  h1 : c1 ∈ hexs
  h2 : c2 ∈ hexs
theorem esc_at {x : Str} {q : Int} {pre post : List Int} {p : Int} (hp : p = 2 ∨ p = 3) (hpre : Plain pre) (hx : x.cps.toList = laidL q (pre ++ p :: post)) :
    ∃ c1 c2, Esc x (greatL pre).length (greatL pre) c1 c2 (laidL (q + pre.length + 1) post) ∧ sgnL p true = [37, upc c1, upc c2] := by
  obtain ⟨c1, c2, e, h1, h2, h3⟩ := esc_of hp ((q + pre.length) % 2 == 0)
  obtain ⟨h4, h5⟩ := laid_plain q hpre
  refine ⟨c1, c2, ⟨?_, rfl, by rw [← h4]; exact h5, h1, h2⟩, h3⟩
  rw [hx, laidL_append, h4]
  simp only [laidL, e, List.cons_append, List.nil_append]
theorem arr_getD {x : Array Nat} {l : List Nat} (h : x.toList = l) (j : Nat) : x.getD j 0 = l.getD j 0 := by
  subst h; simp [List.getD_eq_getElem?_getD]
theorem Esc.facts {x : Str} {q : Nat} {A R : List Nat} {c1 c2 : Nat} (e : Esc x q A c1 c2 R) :
    q + 2 < x.cps.size ∧ x.cps.getD q 0 = 37 ∧ x.cps.getD (q + 1) 0 ∈ hexs ∧ x.cps.getD (q + 2) 0 ∈ hexs ∧ (∀ j, j < q → x.cps.getD j 0 ≠ 37) ∧ x.cps.extract (q + 1) (q + 3) = #[c1, c2] := by
  obtain ⟨eq, len, no, h1, h2⟩ := e
  have hs : x.cps.size = A.length + (R.length + 3) := by
    have := congrArg List.length eq
    simpa using this
  subst len
  refine ⟨by omega, ?_, ?_, ?_, ?_, ?_⟩
  · rw [arr_getD eq]; simp
  · rw [arr_getD eq]; simpa [List.getD_eq_getElem?_getD, List.getElem?_append] using h1
  · rw [arr_getD eq]; simpa [List.getD_eq_getElem?_getD, List.getElem?_append] using h2
  · intro j hj
    rw [arr_getD eq]
    have e : (A ++ 37 :: c1 :: c2 :: R).getD j 0 = A[j] := by simp [List.getD_eq_getElem?_getD, List.getElem?_append, hj]
    rw [e]
    exact no _ (List.getElem_mem hj)
  · apply Array.ext'
    rw [Array.toList_extract, eq, List.extract_eq_take_drop]
    have e2 : A.length + 3 - (A.length + 1) = 2 := by omega
    rw [e2, List.drop_append, List.drop_eq_nil_of_le (by omega), Nat.add_sub_cancel_left]
    rfl
theorem Esc.head {x : Str} {q : Nat} {A R : List Nat} {c1 c2 : Nat} (e : Esc x q A c1 c2 R) : x.cps.toList.take q = A := by
  rw [e.eq, ← e.len]; simp
theorem Esc.tail {x : Str} {q : Nat} {A R : List Nat} {c1 c2 : Nat} (e : Esc x q A c1 c2 R) : x.cps.toList.drop (q + 3) = R := by
  rw [e.eq, ← e.len, List.drop_append, List.drop_eq_nil_of_le (by omega), Nat.add_sub_cancel_left]
  rfl
theorem slice_to {x : Str} {q : Nat} {A R : List Nat} {c1 c2 : Nat} (e : Esc x q A c1 c2 R) : (Txt.slice x none (some (q : Int))).cps.toList = A := by
  have h := PyProof.Rows.slice_closes_to (x := x) (j := (q : Int)) ⟨by omega, by rw [e.eq, ← e.len]; simp; omega⟩
  rw [eq_of_beq h, ← e.head]
  simp
theorem slice_from {x : Str} {q : Nat} {A R : List Nat} {c1 c2 : Nat} (e : Esc x q A c1 c2 R) : (Txt.slice x (some ((q + 3 : Nat) : Int)) none).cps.toList = R := by
  have hl : (x.length : Int) = A.length + (R.length + 3) := by
    have := congrArg List.length e.eq
    simp at this
    show ((x.cps.size : Nat) : Int) = _
    omega
  have hq := e.len
  rw [PyProof.Rows.slice_from_eq (b := x.length) (by omega) (by omega) rfl]
  conv => rhs; rw [← e.tail]
  simp only [Int.toNat_natCast]
  rw [List.take_of_length_le]
  simp [Str.length]
  omega
end Mine
end

section
open PySem PySem.W PyProof.Rows
namespace Mine
/-- the symbol of a piece -/
def symI (p : Int) : Int := if p = 0 then 23 else if p = 1 then 304 else if p = 2 then 15 else if p = 3 then 491 else if p = 4 then 266 else 1891
structure RdSt where
  k : Int
  tk : Tok
  vs : List Value
  cap : Nat
  pre : List Int
  rest : List Int
def RdSt.ok (ns : List Int) (c : RdSt) : Prop := IntsAre c.vs (c.pre.map symI) ∧ ns = c.pre ++ c.rest ∧ c.k = ((greatL c.pre).length : Int)
section
variable {prog : Program} {w : World} {A : Around} {E : Value → Shared → Prop} {s : Shared}
theorem item_lit {value slice : Expr} {x y : Str} {t u : Tok} {i : Int} {Q : Value → Shared → Prop} (e : Txt.item x i = y) (h0 : 0 ≤ i) (h1 : i < x.length) (hl : x.length ≤ 10000) (h : ∀ t' k, Q (.str y t') { s with toks := k })
    (hs : subscripted slice false (.str x t) (.int i u) = operate [.str x t, .int i u] (getItem (.str x t) (.int i u)) := by with_unfolding_all rfl) (hg : ∀ r, letTemporaryGo value (.str x t) r = pure () := by intro _; with_unfolding_all rfl) :
    wpAny (model prog w) A (subscriptTail value slice (.str x t) (.int i u)) Q E s := by
  refine item_str (fitsSsize_of (N := 9223372036854775808) (by omega) (by omega) (Int.le_refl _)) (by omega) h1 (fun _ => ?_) hs hg
  rw [e]
  exact h _ _
end
section
variable {prog : Program} {w : World} {A : Around} {E : Value → Shared → Prop} {s : Shared}
theorem index_lit {x y : Str} {t u : Tok} {z : Int} {Q : Value → Shared → Prop} (hA : A.handled = none) (e : Txt.find x y = z) (h0 : 0 ≤ z) (h : ∀ t' k, Q (.int z t') { s with toks := k }) :
    wpAny (model prog w) A (call (.builtin "str.index") [.str x t, .str y u]) Q E s := by
  subst e
  exact index_or hA (fun h1 => by omega) (fun _ _ => h _ _)
theorem chr_lit {i : Int} {c : Nat} {t : Tok} {Q : Value → Shared → Prop} (e : i = (c : Int)) (hc : c ≤ 1114111) (h : ∀ t' k, Q (.str ⟨#[c]⟩ t') { s with toks := k }) : wpAny (model prog w) A (call (.builtin "chr") [.int i t]) Q E s := by
  subst e
  exact chr_of_range (by omega) (by omega) (h _ _)
end
theorem len_of {vs : List Value} {pre rest ns : List Int} (h : IntsAre vs (pre.map symI)) (e : ns = pre ++ rest) (hn : ns.length ≤ 1000) : vs.length ≤ 1000 := by
  have h1 := h.length
  subst e
  simp only [List.length_append, List.length_map] at *
  omega
theorem item_of {x : Str} {a b : List Nat} {c : Nat} {k : Int} (e : x.cps.toList = a ++ c :: b) (hk : k = (a.length : Int)) : Txt.item x k = ⟨#[c]⟩ := by
  subst hk
  refine item_meets (by omega) ?_
  rw [← Array.getElem?_toList, e, Int.toNat_natCast]
  simp
theorem read_one {x : Str} {ns pre rest : List Int} {p : Int} {k : Int} {c : Nat} (e : ns = pre ++ p :: rest) (hx : x.cps.toList = greatL ns) (hk : k = ((greatL pre).length : Int)) (hs : sgnL p true = [c]) :
    Txt.item x k = ⟨#[c]⟩ ∧ k + 1 ≤ x.length ∧ k + 1 = ((greatL (pre ++ [p])).length : Int) := by
  have e1 : greatL ns = greatL pre ++ c :: greatL rest := by
    rw [e, great_append]; simp [greatL, hs]
  have e2 : greatL (pre ++ [p]) = greatL pre ++ [c] := by rw [great_append]; simp [greatL, hs]
  have hl : x.length = (greatL pre ++ c :: greatL rest).length := by rw [← e1, ← hx]; simp [Str.length]
  rw [e1] at hx
  refine ⟨item_of hx hk, ?_, ?_⟩
  · rw [hl, hk]; simp; omega
  · rw [e2, hk]; simp
theorem read_three {x : Str} {ns pre rest : List Int} {p : Int} {k : Int} {c1 c2 : Nat} (e : ns = pre ++ p :: rest) (hx : x.cps.toList = greatL ns) (hk : k = ((greatL pre).length : Int)) (hs : sgnL p true = [37, c1, c2]) :
    Txt.item x k = ⟨#[37]⟩ ∧ Txt.item x (k + 1) = ⟨#[c1]⟩ ∧ Txt.item x (k + 2) = ⟨#[c2]⟩ ∧ k + 3 ≤ x.length ∧ k + 3 = ((greatL (pre ++ [p])).length : Int) := by
  have e1 : greatL ns = greatL pre ++ 37 :: c1 :: c2 :: greatL rest := by
    rw [e, great_append]; simp [greatL, hs]
  have e2 : greatL (pre ++ [p]) = greatL pre ++ [37, c1, c2] := by rw [great_append]; simp [greatL, hs]
  have hl : x.length = (greatL pre ++ 37 :: c1 :: c2 :: greatL rest).length := by rw [← e1, ← hx]; simp [Str.length]
  rw [e1] at hx
  refine ⟨item_of hx hk, item_of (a := greatL pre ++ [37]) (b := c2 :: greatL rest) (by rw [hx]; simp) (by rw [hk]; simp), item_of (a := greatL pre ++ [37, c1]) (b := greatL rest) (by rw [hx]; simp) (by rw [hk]; simp), ?_, ?_⟩
  · rw [hl, hk]; simp; omega
  · rw [e2, hk]; simp
theorem ok_next {vs : List Value} {pre : List Int} {p z : Int} {t : Tok} (h : IntsAre vs (pre.map symI)) (e : symI p = z) : IntsAre (vs ++ [.int z t]) ((pre ++ [p]).map symI) := by
  subst e
  rw [List.map_append]
  exact IntsAre.append h (.cons _ _ .nil)
end Mine
end

section
open PySem PySem.W PyProof.Rows PySem.Calls
set_option Elab.async false
set_option maxRecDepth 100000
set_option linter.unusedVariables false
namespace Mine
def upd (c : Addr) (o : Obj) (news : List (Addr × Obj)) : List (Addr × Obj) := news.map fun p => if p.1 = c then (c, o) else p
theorem upd_mem {c : Addr} {o o' : Obj} {news : List (Addr × Obj)} (h : (c, o) ∈ news) : (c, o') ∈ upd c o' news := List.mem_map.mpr ⟨(c, o), h, by simp⟩
theorem upd_keep {c a : Addr} {o o' : Obj} {news : List (Addr × Obj)} (h : (a, o) ∈ news) (hn : a ≠ c) : (a, o) ∈ upd c o' news := List.mem_map.mpr ⟨(a, o), h, by simp [hn]⟩
theorem news_upd {g h h' : Heap} {L c : Addr} {o o' : Obj} {news : List (Addr × Obj)} (N : News g L h news) (hm : (c, o) ∈ news) (hs : Heap.SameBut c h h') (ho : h'.get? c = some o') : News g L h' (upd c o' news) := by
  intro p hp
  obtain ⟨q, hq, e⟩ := List.mem_map.mp hp
  by_cases hc : q.1 = c
  · rw [if_pos hc] at e
    subst e
    exact ⟨ho, (N _ hm).2⟩
  · rw [if_neg hc] at e
    subst e
    exact ⟨(hs.2 _ hc).trans (N _ hq).1, (N _ hq).2⟩
theorem Tv.Has.upd {g : Heap} {news : List (Addr × Obj)} {z : Tv} {c : Addr} {o : Obj} (x : z.Has g news) (hn : z.a ≠ c) : z.Has g (upd c o news) := ⟨x.1, x.2.imp id fun ⟨o', n, q, r⟩ => ⟨o', n, upd_keep q hn, r⟩⟩
theorem Lv.Has.upd {g : Heap} {news : List (Addr × Obj)} {z : Lv} {c : Addr} {o : Obj} (x : z.Has g news) (hn : z.a ≠ c) : z.Has g (upd c o news) := ⟨x.1, x.2.imp id fun ⟨o', n, q, r⟩ => ⟨o', n, upd_keep q hn, r⟩⟩
theorem Tv.Has.ne {g h : Heap} {L : Addr} {m : Str → Option Value} {news : List (Addr × Obj)} {z : Tv} {c : Addr} {o : Obj} (x : z.Has g news) (F : Fr g L h m) (N : News g L h news) (hm : (c, o) ∈ news) (hc : o.cls ≠ .type "tuple" ∨ ∀ its n, o.data ≠ .seq its n) : z.a ≠ c := by
  rintro rfl
  obtain ⟨o', ho, hcl, n, hd⟩ := x.at F N
  have := (N _ hm).1
  rw [ho] at this
  have e : o' = o := Option.some.inj this
  subst e
  exact hc.elim (fun h => h hcl) fun h => h _ _ hd
theorem Lv.Has.ne {g h : Heap} {L : Addr} {m : Str → Option Value} {news : List (Addr × Obj)} {z : Lv} {c : Addr} {o : Obj} (x : z.Has g news) (F : Fr g L h m) (N : News g L h news) (hm : (c, o) ∈ news) (hc : ∀ its n, o.data ≠ .seq its n) : z.a ≠ c := by
  rintro rfl
  obtain ⟨o', ho, hcl, n, hd⟩ := x.at F N
  have := (N _ hm).1
  rw [ho] at this
  have e : o' = o := Option.some.inj this
  subst e
  exact hc _ _ hd
theorem lv_head {g h : Heap} {L l : Addr} {its : List Value} {k : Nat} {ns : List Int} {news : List (Addr × Obj)} (_ : News g L h ((l, W.listOf its.toArray k) :: news)) (hi : IntsAre its ns) : Lv.Has g ((l, W.listOf its.toArray k) :: news) ⟨l, its, ns⟩ := .of_new hi (.head _)
theorem lv_top {g h : Heap} {L l : Addr} {its : List Value} {k : Nat} {ns : List Int} {news : List (Addr × Obj)} (N : News g L h ((l, W.listOf its.toArray k) :: news)) (hi : IntsAre its ns) :
    ∃ nw, Lv.Has g nw ⟨l, its, ns⟩ ∧ (∀ p ∈ news, p ∈ nw) ∧ News g L h nw := ⟨_, .of_new hi (.head _), fun _ q => .tail _ q, N⟩
theorem cell_ne {o : Obj} {v : Option Value} (h : o.data = .cell v) : ∀ its n, o.data ≠ .seq its n := fun its n => by rw [h]; exact fun e => nomatch e
theorem three_lists {g h : Heap} {L t a b c : Addr} {o : Obj} {v : Value} {news : List (Addr × Obj)} (N : News g L h ((t, o) :: (a, W.listOf #[] 0) :: (b, W.listOf #[] 0) :: (c, W.listOf #[v] 0) :: news)) :
    ∃ (nw : List (Addr × Obj)) (a' b' c' : Addr), (a, W.listOf #[] 0) ∈ nw ∧ (b, W.listOf #[] 0) ∈ nw ∧ (c, W.listOf #[v] 0) ∈ nw ∧ (∀ p ∈ news, p ∈ nw) ∧ News g L h nw :=
  ⟨_, a, b, c, .tail _ (.head _), .tail _ (.tail _ (.head _)), .tail _ (.tail _ (.tail _ (.head _))), fun _ q => .tail _ (.tail _ (.tail _ (.tail _ q))), N⟩
theorem mem_of_news {g h : Heap} {L : Addr} {p : Addr × Obj} {r : List (Addr × Obj)} (_ : News g L h (p :: r)) : p ∈ p :: r := .head _
section
variable {M : Model} {A : Around} {E : Value → Shared → Prop} {s : Shared} {g : Heap} {L a : Addr} {m : Str → Option Value} {cn : Str} {cs : Scope} {ccd : Value} {cl : List (Str × Addr)} {news : List (Addr × Obj)}
theorem store_cell {x : Str} {v : Value} {c : Addr} {o : Obj} {v₀ : Option Value} {Q : Unit → Shared → Prop} (F : Fr g L s.heap m) (N : News g L s.heap news) (hc : cl.lookup x = some c) (hm : (c, o) ∈ news) (hd : o.data = .cell v₀)
    (h : ∀ h' o', Fr g L h' m → News g L h' (upd c o' news) → (c, o') ∈ upd c o' news → o'.data = .cell (some v) → Q () { s with heap := h' })
    (hk : cs.kind = .function := by rfl) (hx : (envX cn cs L a ccd cl).kindOf x = some .cell := by rfl) : wpAny M A (storeName (envX cn cs L a ccd cl) x v) Q E s := by
  have hmem := N _ hm
  refine wpAny_storeName_cell hk hx hc ⟨o, hmem.1, hd⟩ fun h' hv hs => ?_
  obtain ⟨o', ho', hd'⟩ := hv
  refine h h' o' ⟨F.ns.sameBut hs (Ne.symm hmem.2.1), fun b ob e => (hs.2 b (fun q => ?_)).trans (F.keep b ob e), F.above⟩ (news_upd N hm hs ho') (upd_mem hm) hd'
  rw [q, hmem.2.2] at e; cases e
end
/-- the cell that holds the list of symbols -/
structure SymAt (g : Heap) (news : List (Addr × Obj)) (c : Addr) (z : Lv) : Prop where
  cell : ∃ o, (c, o) ∈ news ∧ o.data = .cell (some (.ref z.a))
  has : z.Has g news
  ns : z.ns = [23, 304, 15, 491, 266, 1891]
theorem SymAt.mono {g : Heap} {news news' : List (Addr × Obj)} {c : Addr} {z : Lv} (x : SymAt g news c z) (h : ∀ p ∈ news, p ∈ news') : SymAt g news' c z := ⟨let ⟨o, q, r⟩ := x.cell; ⟨o, h _ q, r⟩, x.has.mono h, x.ns⟩
theorem sym_get {n : Int} (h : 0 ≤ n ∧ n < 6) : ([23, 304, 15, 491, 266, 1891] : List Int).getD n.toNat 0 = symI n := by
  rcases six h with e | e | e | e | e | e <;> subst e <;> rfl
section
variable {prog : Program} {w : World} {A : Around} {E : Value → Shared → Prop} {s : Shared} {g : Heap} {L : Addr} {m : Str → Option Value} {news : List (Addr × Obj)} {env : Env}
theorem symb_rest {P : Nat → Value → Prop} {S : List (Addr × Obj) → Prop} {Fin : List Value → List (Addr × Obj) → Prop} {c : Addr} {z : Lv} {scope : Scope} {p1 p2 p3 : Pos} {ns : List Int}
    (hs : SymAt g news c z) (hS : S news) (hk : (compEnvC scope [(Str.ofString "symbols", c)] 0 env).scope.kind = .function)
    (hx : ∀ C, (compEnvC scope [(Str.ofString "symbols", c)] C env).kindOf "piece" = some .local) (hf : ∀ C, (compEnvC scope [(Str.ofString "symbols", c)] C env).kindOf "symbols" = some .cell)
    (hP : ∀ i v, P i v → ∃ t, v = .int (ns.getD i 0) t) (hb : ∀ n ∈ ns, 0 ≤ n ∧ n < 6) (fin : ∀ ys, IntsAre ys (ns.map symI) → Fin ys news) :
    ∀ (k i : Nat) (ys : List Value), i + k = ns.length → IntsAre ys ((ns.take i).map symI) →
      LCg.CompRest prog w A g L m env (.Subscript (.Name "symbols" p1) (.Name "piece" p2) p3) "piece" scope [(Str.ofString "symbols", c)] s S P Fin k i ys news
  | 0, i, ys, hik, hy => by
    refine LCg.CompRest.zero (fin ys ?_)
    rwa [List.take_of_length_le (by omega)] at hy
  | k + 1, i, ys, hik, hy => by
    refine LCg.CompRest.succ fun v I oI C oC D m₂ h tk E' hPv hC hm2 F N off hne => ?_
    obtain ⟨t, rfl⟩ := hP i v hPv
    have hi : i < ns.length := by omega
    have hn := hb ns[i] (List.getElem_mem hi)
    have e0 : ns.getD i 0 = ns[i] := by simp [List.getD_eq_getElem?_getD, hi]
    rw [e0] at hm2
    have sub : ∀ p ∈ news, p ∈ (I, oI) :: (C, oC) :: (D, LCg.lst ys) :: news := fun p q => .tail _ (.tail _ (.tail _ q))
    have hs' := hs.mono sub
    obtain ⟨oc, hoc, hod⟩ := hs'.cell
    have hz : z.ns.length = 6 := by rw [hs.ns]; rfl
    refine Subscript_ ?_
    refine lcf_cell N (cl := [(Str.ofString "symbols", c)]) rfl hoc hod ?_ hk (hf C)
    refine LCgL.ld_own N (.tail _ (.head _)) hC hm2 ?_ hk (hx C)
    refine lv_item F N hs'.has (by omega) hn.1 (by omega) fun t2 => ?_
    rw [hs.ns, sym_get hn]
    refine LCg.CompEnd.intro F N news (fun p q => q) off hS (symb_rest hs hS hk hx hf hP hb fin k (i + 1) _ (by omega) ?_)
    rw [List.take_add_one, List.getElem?_eq_getElem hi, List.map_append]
    exact hy.append (.cons _ _ .nil)
theorem symb_src {Q : Value → Shared → Prop} {X z : Lv} {c : Addr} {scope : Scope} {p1 p2 p3 : Pos} (F : Fr g L s.heap m) (N : News g L s.heap news) (hX : X.Has g news) (hs : SymAt g news c z)
    (hb : ∀ n ∈ X.ns, 0 ≤ n ∧ n < 6) (hz : X.ns.length ≤ 100000)
    (h : ∀ (y : Lv) h' tk news', y.Has g news' → y.ns = X.ns.map symI → (∀ p ∈ news, p ∈ news') → Fr g L h' m → News g L h' news' → Q (.ref y.a) { s with heap := h', toks := tk })
    (hh : A.handled = none := by rfl) (hk : (compEnvC scope [(Str.ofString "symbols", c)] 0 env).scope.kind = .function := by rfl)
    (hx : ∀ C, (compEnvC scope [(Str.ofString "symbols", c)] C env).kindOf "piece" = some .local := by intro _; rfl) (hf : ∀ C, (compEnvC scope [(Str.ofString "symbols", c)] C env).kindOf "symbols" = some .cell := by intro _; rfl) :
    LCg.CompSrc prog w A g L m env (.Subscript (.Name "symbols" p1) (.Name "piece" p2) p3) "piece" scope [(Str.ofString "symbols", c)] (fun s₂ => LCg.FinE g L m s₂ Q) (.ref X.a) s := by
  have hS : LCg.SrcAt g X.a X.vs.toArray news := hX.2.imp id fun ⟨o, n, q, hc, hd⟩ => ⟨o, q, hc, n, hd⟩
  refine .inl ⟨X.a, X.vs.toArray, news, rfl, hh, F, N, hS, by rw [List.size_toArray, hX.len, sizeLine_eq]; omega, ?_⟩
  rintro s₂ ⟨hp, rfl⟩
  refine symb_rest (ns := X.ns) hs hS hk hx hf (fun i v hv => ?_) hb (fun ys hy D h2 tk F2 N2 _ => ?_) _ 0 [] (by rw [List.size_toArray, hX.len]; omega) .nil
  · have hi : i < X.ns.length := by
      rw [← hX.len]
      rcases Nat.lt_or_ge i X.vs.length with q | q
      · exact q
      · have hv' : X.vs[i]? = some v := by simpa using hv
        rw [List.getElem?_eq_none q] at hv'; cases hv'
    obtain ⟨t, ht⟩ := hX.1.get i X.ns[i] (by simp [hi])
    have hv' : X.vs[i]? = some v := by simpa using hv
    rw [ht] at hv'
    exact ⟨t, by rw [← Option.some.inj hv']; simp [List.getD_eq_getElem?_getD, hi]⟩
  · exact h ⟨D, ys, _⟩ h2 tk _ ⟨hy, .inr ⟨_, _, .head _, rfl, rfl⟩⟩ rfl (fun _ q => .tail _ q) F2 N2
theorem tv_tuple {x : Lv} {Q : Value → Shared → Prop} (F : Fr g L s.heap m) (N : News g L s.heap news) (hx : x.Has g news) (hz : x.ns.length ≤ 100000)
    (h : ∀ (z : Tv) h' news', z.Has g news' → z.ns = x.ns → (∀ p ∈ news, p ∈ news') → Fr g L h' m → News g L h' news' → Q (.ref z.a) { s with heap := h' }) : wpAny (model prog w) A (call (.type "tuple") [.ref x.a]) Q E s :=
  tuple_ofL F N (hx.at F N) (fun D h' F' N' _ => h ⟨D, x.vs, x.ns⟩ h' _ (.of_new hx.1 (.head _)) rfl (fun _ q => .tail _ q) F' N') (by rw [hx.len, sizeLine_eq]; omega)
end
theorem rows_two {tup : Bool} {h : Heap} {v1 v2 : Value} {n1 n2 : List Int} (h1 : SeqInts tup h v1 n1) (h2 : SeqInts tup h v2 n2) : Rows tup h [v1, v2] [n1, n2] := by
  refine ⟨rfl, fun i v ns hv hn => ?_⟩
  match i with
  | 0 => simp at hv hn; subst hv hn; exact h1
  | 1 => simp at hv hn; subst hv hn; exact h2
  | i + 2 => simp at hv
theorem Tv.Has.seq {g h : Heap} {L : Addr} {m : Str → Option Value} {news : List (Addr × Obj)} {z : Tv} (x : z.Has g news) (F : Fr g L h m) (N : News g L h news) : SeqInts true h (.ref z.a) z.ns := ⟨z.a, z.vs, rfl, x.at F N, x.1⟩
end Mine
end

section
open PySem PySem.W PyProof.Rows PySem.Calls
set_option Elab.async false
set_option maxRecDepth 100000
set_option linter.unusedVariables false
namespace Mine
/-- what law's frame keeps -/
structure Ctx (g : Heap) (news : List (Addr × Obj)) (fi ki : Lv) (one oth sh row : Tv) (ca : Addr) (sy : Lv) : Prop where
  fi : fi.Has g news
  ki : ki.Has g news
  one : one.Has g news
  oth : oth.Has g news
  sh : sh.Has g news
  row : row.Has g news
  S : SymAt g news ca sy
section
variable {g h : Heap} {L I : Addr} {m : Str → Option Value} {news news' own : List (Addr × Obj)} {fi ki : Lv} {one oth sh row : Tv} {ca : Addr} {sy : Lv}
theorem Ctx.mono (x : Ctx g news fi ki one oth sh row ca sy) (h : ∀ p ∈ news, p ∈ news') : Ctx g news' fi ki one oth sh row ca sy :=
  ⟨x.fi.mono h, x.ki.mono h, x.one.mono h, x.oth.mono h, x.sh.mono h, x.row.mono h, x.S.mono h⟩
theorem SymAt.off (x : SymAt g news ca sy) (N : News g L h news) (hI : IsIter I own) (ho : ∀ p ∈ own, p ∈ news) : SymAt g (news.filter fun p => p.1 != I) ca sy :=
  ⟨let ⟨o, q, r⟩ := x.cell; ⟨o, cell_off N hI ho q r, r⟩, x.has.off N hI ho, x.ns⟩
theorem Ctx.off (x : Ctx g news fi ki one oth sh row ca sy) (N : News g L h news) (hI : IsIter I own) (ho : ∀ p ∈ own, p ∈ news) : Ctx g (news.filter fun p => p.1 != I) fi ki one oth sh row ca sy :=
  ⟨x.fi.off N hI ho, x.ki.off N hI ho, x.one.off N hI ho, x.oth.off N hI ho, x.sh.off N hI ho, x.row.off N hI ho, x.S.off N hI ho⟩
end
theorem pick_k {n : Int} {b : Bool} (h : (decide (255 < n) == b) = true) (f k : List Int) : (if decide (256 ≤ n) = !b then f else k) = k := by
  have e : decide (255 < n) = decide (256 ≤ n) := decide_eq_decide.mpr (by omega)
  rw [e] at h
  cases b <;> cases hd : decide (256 ≤ n) <;> simp_all
theorem pick_f {n : Int} {b : Bool} (h : (decide (255 < n) == b) = false) (f k : List Int) : (if decide (256 ≤ n) = !b then f else k) = f := by
  have e : decide (255 < n) = decide (256 ≤ n) := decide_eq_decide.mpr (by omega)
  rw [e] at h
  cases b <;> cases hd : decide (256 ≤ n) <;> simp_all
/-- branch A: the words so far -/
structure ASt.ok (g : Heap) (fi ki : Lv) (one oth sh row : Tv) (ca : Addr) (sy : Lv) (pre : List Int) (z : Lv) (news : List (Addr × Obj)) : Prop where
  ctx : Ctx g news fi ki one oth sh row ca sy
  has : z.Has g news
  ns : z.ns = piecesL fi.ns ki.ns [] pre
abbrev astOf {g : Heap} {news : List (Addr × Obj)} {fi ki : Lv} {one oth sh row : Tv} {ca : Addr} {sy : Lv} (_ : Ctx g news fi ki one oth sh row ca sy) : List Int → Lv → List (Addr × Obj) → Prop := ASt.ok g fi ki one oth sh row ca sy
end Mine
end

section
open PySem
namespace Mine
theorem lcp2_self : ∀ a : List Int, lcp2 a a = a
  | [] => rfl
  | a :: r => by simp [lcp2, lcp2_self r]
theorem lcp2_pre (s a b : List Int) : lcp2 (s ++ a) (s ++ b) = s ++ lcp2 a b := by
  induction s with
  | nil => rfl
  | cons x r ih => simp [lcp2, ih]
theorem lcp2_mis {u v : List Int} {n : Nat} (he : ∀ j, j < n → u.getD j 0 = v.getD j 0) (h1 : n < u.length) (h2 : n < v.length) (hn : u.getD n 0 ≠ v.getD n 0) (a b : List Int) : lcp2 (u ++ a) (v ++ b) = u.take n := by
  have g : ∀ (x y : List Int) j, j < x.length → (x ++ y).getD j 0 = x.getD j 0 := by
    intro x y j hj
    simp [List.getD_eq_getElem?_getD, List.getElem?_append, hj]
  rw [lcp2_at _ _ n (fun j hj => by rw [g _ _ _ (by omega), g _ _ _ (by omega)]; exact he j hj) (by simp; omega) (by simp; omega) (by rw [g _ _ _ h1, g _ _ _ h2]; exact hn)]
  rw [List.take_append_of_le_length (by omega)]
theorem euc_same {ns ms s u v z : List Int} (e1 : ns ++ ms = s ++ (u ++ v)) (e2 : ms ++ ns = s ++ (v ++ u)) (h : u = v) (hz : z = ns ++ ms) : z = lcp2 (ns ++ ms) (ms ++ ns) := by
  subst h hz
  rw [e2, ← e1, lcp2_self]
theorem euc_diff {ns ms s u v z z5 : List Int} {n : Nat} (e1 : ns ++ ms = s ++ (u ++ v)) (e2 : ms ++ ns = s ++ (v ++ u)) (he : ∀ j, j < n → u.getD j 0 = v.getD j 0) (h1 : n < u.length) (h2 : n < v.length) (hn : u.getD n 0 ≠ v.getD n 0)
    (hz5 : z5 = u.take n) (hz : z = s ++ z5) : z = lcp2 (ns ++ ms) (ms ++ ns) := by
  rw [e1, e2, lcp2_pre, lcp2_mis he h1 h2 hn, hz, hz5]
theorem euc_cut {u v z z3 : List Int} (hz : z = v.take u.length) (h : z = u) (h3 : z3 = v.drop u.length) : v = u ++ z3 := by
  have := List.take_append_drop u.length v
  rw [← hz, ← h3, h] at this
  exact this.symm
/-- agreeing so far, and neither begins with the other -/
theorem euc_in {u v z1 z2 : List Int} {n : Nat} (he : ∀ j, j < n → u.getD j 0 = v.getD j 0) (hz1 : z1 = v.take u.length) (hP : z1 ≠ u) (hz2 : z2 = u.take v.length) (hP2 : z2 ≠ v) (h1 : n ≤ u.length) (h2 : n ≤ v.length) :
    n < u.length ∧ n < v.length := by
  have key : ∀ a b : List Int, n = a.length → n ≤ b.length → (∀ j, j < n → a.getD j 0 = b.getD j 0) → b.take a.length = a := by
    intro a b ha hb h
    apply List.ext_getElem
    · simp; omega
    · intro i hi hj
      have := h i (by omega)
      rw [List.getD_eq_getElem?_getD, List.getD_eq_getElem?_getD, List.getElem?_eq_getElem hj, List.getElem?_eq_getElem (by omega)] at this
      simpa using this.symm
  refine ⟨?_, ?_⟩
  · rcases Nat.lt_or_ge n u.length with h | h
    · exact h
    · exact absurd (hz1.trans (key u v (by omega) h2 he)) hP
  · rcases Nat.lt_or_ge n v.length with h | h
    · exact h
    · exact absurd (hz2.trans (key v u (by omega) h1 fun j hj => (he j hj).symm)) hP2
structure KSt where
  k : Int
  t : Tok
structure KSt.ok (u v : List Int) (c : KSt) : Prop where
  h0 : 0 ≤ c.k
  h1 : c.k < u.length
  h2 : c.k < v.length
  he : ∀ j, j < c.k.toNat → u.getD j 0 = v.getD j 0
end Mine
end

section
open PySem
namespace Mine
theorem lcp2_comm : ∀ a b : List Int, lcp2 a b = lcp2 b a
  | [], [] => rfl
  | [], _ :: _ => rfl
  | _ :: _, [] => rfl
  | a :: r, b :: q => by
    by_cases h : a = b
    · subst h; simp [lcp2, lcp2_comm r q]
    · simp [lcp2, h, Ne.symm h]
theorem lcp2_left : ∀ a b : List Int, lcp2 a b <+: a
  | [], b => by cases b <;> exact List.prefix_refl _
  | _ :: _, [] => List.nil_prefix
  | a :: r, b :: q => by
    by_cases h : a = b
    · subst h; simp only [lcp2, if_true]; exact (List.prefix_cons_inj a).mpr (lcp2_left r q)
    · simp [lcp2, h]
theorem lcp2_right (a b : List Int) : lcp2 a b <+: b := by rw [lcp2_comm]; exact lcp2_left b a
theorem lcp2_most : ∀ (p a b : List Int), p <+: a → p <+: b → p <+: lcp2 a b
  | [], _, _, _, _ => List.nil_prefix
  | x :: p, [], _, h, _ => by simp at h
  | x :: p, _ :: _, [], _, h => by simp at h
  | x :: p, a :: r, b :: q, h1, h2 => by
    rw [List.cons_prefix_cons] at h1 h2
    obtain ⟨rfl, h1⟩ := h1
    obtain ⟨rfl, h2⟩ := h2
    simp only [lcp2, if_true]
    exact (List.prefix_cons_inj _).mpr (lcp2_most p r q h1 h2)
theorem pre_eq {p q : List Int} (h1 : p <+: q) (h2 : q <+: p) : p = q := h1.eq_of_length (Nat.le_antisymm h1.length_le h2.length_le)
theorem lcp2_iff {p a b : List Int} (h1 : p <+: a) (h2 : p <+: b) (h3 : lcp2 a b <+: p) : lcp2 a b = p := pre_eq h3 (lcp2_most p a b h1 h2)
theorem sandwich : ∀ (mn mx x : List Int), lexLt x mn = false → lexLt mx x = false → lcp2 mn mx <+: x
  | [], mx, x, _, _ => by cases mx <;> exact List.nil_prefix
  | _ :: _, [], x, _, _ => List.nil_prefix
  | a :: r, b :: q, x, h1, h2 => by
    by_cases h : a = b
    · subst h
      simp only [lcp2, if_true]
      cases x with
      | nil => simp [lexLt] at h1
      | cons c t =>
        unfold lexLt at h1 h2
        have e : c = a := by
          by_cases e : c = a
          · exact e
          · rw [if_neg e] at h1
            rw [if_neg (Ne.symm e)] at h2
            have := of_decide_eq_false h1
            have := of_decide_eq_false h2
            omega
        subst e
        rw [if_pos rfl] at h1 h2
        exact (List.prefix_cons_inj _).mpr (sandwich r q t h1 h2)
    · simp [lcp2, h]
theorem cp_rows {nss : List (List Int)} {p a b : List Int} (hp : ∀ ns ∈ nss, p <+: ns) (ha : a ∈ nss) (hb : b ∈ nss) (h : lcp2 a b = p) : lcp2 (minRow nss) (maxRow nss) = p := by
  have h0 : 0 < nss.length := List.length_pos_of_mem ha
  have s := fun x (hx : x ∈ nss) => sandwich _ _ x (minRow_le hx) (le_maxRow hx)
  refine lcp2_iff (hp _ (minRow_mem h0)) (hp _ (maxRow_mem h0)) ?_
  rw [← h]
  exact lcp2_most _ _ _ (s a ha) (s b hb)
theorem cp_two (a b : List Int) : lcp2 (minRow [a, b]) (maxRow [a, b]) = lcp2 a b := by
  refine cp_rows (a := a) (b := b) (fun ns hn => ?_) (by simp) (by simp) rfl
  rcases List.mem_cons.mp hn with rfl | hn
  · exact lcp2_left _ _
  · rw [List.mem_singleton.mp hn]; exact lcp2_right _ _
end Mine
end

section
open PySem PySem.Builtin.Str PySem.Sre
namespace Mine
def ok0 (l : List Nat) : Bool := match l.dropWhile isDigit with
  | [] => true
  | [c] => c == 10
  | _ => false
def headD : List Nat → Bool
  | [] => false
  | d :: _ => isDigit d
def headP : List Int → Bool
  | [] => false
  | d :: _ => d == 1
def hitR : List Nat → Bool
  | [] => false
  | c :: r => (c == 46 && (headD r && ok0 r)) || hitR r
theorem digs_list (l : List Nat) : ∀ (f p : Nat), p + f = l.length → digs l.toArray f p = ((l.drop p).takeWhile isDigit).length
  | 0, p, h => by simp [digs, List.drop_eq_nil_of_le (show l.length ≤ p by omega)]
  | f + 1, p, h => by
    have hp : p < l.length := by omega
    have e : l.drop p = l[p] :: l.drop (p + 1) := List.drop_eq_getElem_cons hp
    have e2 : l.toArray.getD p 0 = l[p] := by simp [hp]
    unfold digs
    rw [e2, e, digs_list l f (p + 1) (by omega)]
    cases h9 : isDigit l[p]
    · rw [List.takeWhile_cons, h9]; rfl
    · rw [List.takeWhile_cons, h9]; rfl
theorem tw_dw (l : List Nat) : l.dropWhile isDigit = l.drop (l.takeWhile isDigit).length := by
  induction l with
  | nil => rfl
  | cons c r ih =>
    cases h : isDigit c <;> simp [List.takeWhile_cons, List.dropWhile_cons, h, ih]
theorem hitB_list (l : List Nat) (s : Nat) (hs : s < l.length) : hitB l.toArray l.length s = (l[s] == 46 && (headD (l.drop (s + 1)) && ok0 (l.drop (s + 1)))) := by
  unfold hitB
  have e2 : l.toArray.getD s 0 = l[s] := by simp [hs]
  rw [e2, digs_list l _ _ (by omega)]
  congr 1
  obtain ⟨r, hr⟩ : ∃ r, l.drop (s + 1) = r := ⟨_, rfl⟩
  have hlen : r.length = l.length - (s + 1) := by rw [← hr]; simp
  have e3 : decide (1 ≤ (r.takeWhile isDigit).length) = headD r := by
    cases r with
    | nil => rfl
    | cons d t => cases h : isDigit d <;> simp [List.takeWhile_cons, h, headD]
  rw [hr, e3]
  congr 1
  have hle : (r.takeWhile isDigit).length ≤ r.length := (List.takeWhile_prefix _).length_le
  have e4 : r.dropWhile isDigit = l.drop (s + 1 + (r.takeWhile isDigit).length) := by rw [tw_dw, ← hr, List.drop_drop]
  unfold ok0 atEnd
  rw [e4]
  obtain ⟨p, hp⟩ : ∃ p, s + 1 + (r.takeWhile isDigit).length = p := ⟨_, rfl⟩
  rw [hp]
  have hpl : p ≤ l.length := by omega
  by_cases h1 : p = l.length
  · rw [List.drop_eq_nil_of_le (by omega)]; simp [h1]
  · have hp' : p < l.length := by omega
    rw [List.drop_eq_getElem_cons hp']
    have e5 : l.toArray.getD p 0 = l[p] := by simp [hp']
    rw [e5]
    by_cases h2 : p + 1 = l.length
    · rw [List.drop_eq_nil_of_le (by omega)]
      simp [h1, h2]
    · have : p + 1 < l.length := by omega
      rw [List.drop_eq_getElem_cons this]
      simp [h1, h2]
theorem anyHit_list (l : List Nat) : ∀ (f s : Nat), s + f = l.length → anyHit l.toArray l.length f s = hitR (l.drop s)
  | 0, s, h => by rw [List.drop_eq_nil_of_le (by omega)]; rfl
  | f + 1, s, h => by
    have hs : s < l.length := by omega
    rw [anyHit, hitB_list l s hs, anyHit_list l f (s + 1) (by omega), List.drop_eq_getElem_cons hs]
    rfl
theorem hitL_eq (l : List Nat) : hitL l = hitR l := by
  unfold hitL
  rw [anyHit_list l _ 0 (by omega)]
  simp
theorem ok0_no {c : Nat} {r : List Nat} (h1 : isDigit c = false) (h2 : (c == 10) = false) : ok0 (c :: r) = false := by
  unfold ok0
  rw [List.dropWhile_cons, h1]
  simp only [Bool.false_eq_true, if_false]
  cases r with
  | nil => exact h2
  | cons => rfl
/-- by pieces -/
def ok0P : List Int → Bool
  | [] => true
  | p :: r => if p = 1 then ok0P r else (p == 4 && r.isEmpty)
def hitP : List Int → Bool
  | [] => false
  | p :: r => (p == 0 && (headP r && ok0P r)) || hitP r
theorem laid_nil {q : Int} {r : List Int} : (laidL q r = []) ↔ r = [] := by
  cases r with
  | nil => simp [laidL]
  | cons p t =>
    simp only [laidL, reduceCtorEq, iff_false]
    unfold sgnL
    (repeat' split) <;> simp
theorem ok0_laid : ∀ (r : List Int) (q : Int), (∀ n ∈ r, 0 ≤ n ∧ n < 6) → ok0 (laidL q r) = ok0P r
  | [], q, _ => rfl
  | p :: r, q, h => by
    have ih := ok0_laid r (q + 1) fun n hn => h n (.tail _ hn)
    have hp := h p (.head _)
    rcases six hp with e | e | e | e | e | e <;> subst e
    · exact ok0_no rfl rfl
    · have : ok0 (laidL q (1 :: r)) = ok0 (laidL (q + 1) r) := by simp [laidL, sgnL, ok0, List.dropWhile_cons, isDigit]
      rw [this, ih]; simp [ok0P]
    · exact ok0_no rfl rfl
    · exact ok0_no rfl rfl
    · cases r with
      | nil => simp [laidL, sgnL, ok0, ok0P, List.dropWhile_cons, isDigit]
      | cons b t =>
        have hne : laidL (q + 1) (b :: t) ≠ [] := fun e => by simpa using laid_nil.mp e
        obtain ⟨c, t2, e⟩ := List.exists_cons_of_ne_nil hne
        have e1 : laidL q (4 :: b :: t) = 10 :: laidL (q + 1) (b :: t) := rfl
        rw [e1, e]
        simp [ok0, ok0P, List.dropWhile_cons, isDigit]
    · exact ok0_no rfl rfl
theorem head_laid (r : List Int) (q : Int) (h : ∀ n ∈ r, 0 ≤ n ∧ n < 6) : headD (laidL q r) = headP r := by
  cases r with
  | nil => rfl
  | cons p t => rcases six (h p (.head _)) with e | e | e | e | e | e <;> subst e <;> simp [laidL, sgnL, isDigit, headD, headP]
theorem hit_laid : ∀ (r : List Int) (q : Int), (∀ n ∈ r, 0 ≤ n ∧ n < 6) → hitR (laidL q r) = hitP r
  | [], q, _ => rfl
  | p :: r, q, h => by
    have h' : ∀ n ∈ r, 0 ≤ n ∧ n < 6 := fun n hn => h n (.tail _ hn)
    have ih := hit_laid r (q + 1) h'
    have i2 := ok0_laid r (q + 1) h'
    have i3 := head_laid r (q + 1) h'
    rcases six (h p (.head _)) with e | e | e | e | e | e <;> subst e
    · have e1 : laidL q (0 :: r) = 46 :: laidL (q + 1) r := rfl
      rw [e1]
      simp only [hitR, hitP, ih, i2, i3, beq_self_eq_true, Bool.true_and]
    · have e1 : laidL q (1 :: r) = 48 :: laidL (q + 1) r := rfl
      rw [e1]; simp [hitR, hitP, ih]
    · have e1 : laidL q (2 :: r) = 37 :: 50 :: (if (q % 2 == 0) then 68 else 100) :: laidL (q + 1) r := rfl
      rw [e1]
      simp only [hitR, hitP, ih]
      split <;> simp
    · have e1 : laidL q (3 :: r) = 37 :: (if (q % 2 == 0) then 69 else 101) :: (if (q % 2 == 0) then 66 else 98) :: laidL (q + 1) r := rfl
      rw [e1]
      simp only [hitR, hitP, ih]
      split <;> simp
    · have e1 : laidL q (4 :: r) = 10 :: laidL (q + 1) r := rfl
      rw [e1]; simp [hitR, hitP, ih]
    · have e1 : laidL q (5 :: r) = 1635 :: laidL (q + 1) r := rfl
      rw [e1]; simp [hitR, hitP, ih]
theorem ok0P_iff : ∀ r : List Int, ok0P r = true ↔ ∃ k e, r = List.replicate k 1 ++ e ∧ (e = [] ∨ e = [4])
  | [] => ⟨fun _ => ⟨0, [], rfl, .inl rfl⟩, fun _ => rfl⟩
  | p :: r => by
    unfold ok0P
    by_cases h : p = 1
    · subst h
      rw [if_pos rfl, ok0P_iff r]
      constructor
      · rintro ⟨k, e, rfl, he⟩; exact ⟨k + 1, e, rfl, he⟩
      · rintro ⟨k, e, h, he⟩
        cases k with
        | zero => rcases he with rfl | rfl <;> simp at h
        | succ k => rw [List.replicate_succ, List.cons_append] at h; exact ⟨k, e, (List.cons.inj h).2, he⟩
    · rw [if_neg h]
      constructor
      · intro h2
        simp only [Bool.and_eq_true, beq_iff_eq, List.isEmpty_iff] at h2
        obtain ⟨rfl, rfl⟩ := h2
        exact ⟨0, [4], rfl, .inr rfl⟩
      · rintro ⟨k, e, h2, he⟩
        cases k with
        | zero =>
          rcases he with rfl | rfl
          · simp at h2
          · simp at h2; simp [h2.1, h2.2]
        | succ k => rw [List.replicate_succ, List.cons_append] at h2; exact absurd (List.cons.inj h2).1 h
theorem hitP_iff : ∀ r : List Int, hitP r = true ↔ ∃ a k e, r = a ++ 0 :: (List.replicate (k + 1) 1 ++ e) ∧ (e = [] ∨ e = [4])
  | [] => ⟨fun h => by simp [hitP] at h, fun ⟨a, k, e, h, _⟩ => by simp at h⟩
  | p :: r => by
    unfold hitP
    rw [Bool.or_eq_true, hitP_iff r, Bool.and_eq_true, Bool.and_eq_true, ok0P_iff r, beq_iff_eq]
    constructor
    · rintro (⟨rfl, h1, k, e, rfl, he⟩ | ⟨a, k, e, rfl, he⟩)
      · cases k with
        | zero =>
          exfalso
          rcases he with rfl | rfl
          · simp [headP] at h1
          · simp [headP] at h1
        | succ k => exact ⟨[], k, e, rfl, he⟩
      · exact ⟨p :: a, k, e, rfl, he⟩
    · rintro ⟨a, k, e, h, he⟩
      cases a with
      | nil =>
        rw [List.nil_append] at h
        obtain ⟨rfl, rfl⟩ := List.cons.inj h
        exact .inl ⟨rfl, rfl, k + 1, e, rfl, he⟩
      | cons b a =>
        rw [List.cons_append] at h
        obtain ⟨rfl, rfl⟩ := List.cons.inj h
        exact .inr ⟨a, k, e, rfl, he⟩
theorem tailB_iff : ∀ (xs : List Int) (b : Bool), tailB b xs = true ↔ ∃ k a, xs = List.replicate k 1 ++ 0 :: a ∧ (b = true ∨ 0 < k)
  | [], b => ⟨fun h => by simp [tailB] at h, fun ⟨k, a, h, _⟩ => by simp at h⟩
  | p :: r, b => by
    unfold tailB
    by_cases h : p = 1
    · subst h
      rw [if_pos rfl, tailB_iff r true]
      constructor
      · rintro ⟨k, a, rfl, _⟩; exact ⟨k + 1, a, rfl, .inr (Nat.succ_pos k)⟩
      · rintro ⟨k, a, h, _⟩
        cases k with
        | zero => simp at h
        | succ k => rw [List.replicate_succ, List.cons_append] at h; exact ⟨k, a, (List.cons.inj h).2, .inl rfl⟩
    · rw [if_neg h, Bool.and_eq_true, beq_iff_eq]
      constructor
      · rintro ⟨rfl, rfl⟩; exact ⟨0, r, rfl, .inl rfl⟩
      · rintro ⟨k, a, h2, hb⟩
        cases k with
        | zero =>
          rw [List.replicate_zero, List.nil_append] at h2
          exact ⟨hb.resolve_right (Nat.lt_irrefl 0), (List.cons.inj h2).1⟩
        | succ k => rw [List.replicate_succ, List.cons_append] at h2; exact absurd (List.cons.inj h2).1 h
theorem rev_ones (a : List Int) (k : Nat) (e : List Int) : (a ++ 0 :: (List.replicate k 1 ++ e)).reverse = e.reverse ++ (List.replicate k 1 ++ 0 :: a.reverse) := by
  simp [List.reverse_append]
theorem hitP_bnd (ps : List Int) : hitP ps = bnd ps := by
  rw [Bool.eq_iff_iff, hitP_iff]
  unfold bnd
  constructor
  · rintro ⟨a, k, e, rfl, he⟩
    rw [rev_ones]
    rcases he with rfl | rfl
    · simp only [List.reverse_nil, List.nil_append]
      rw [List.replicate_succ, List.cons_append]
      simp only [show ¬ ((1 : Int) = 4) by decide, if_false]
      rw [← List.cons_append, ← List.replicate_succ, tailB_iff]
      exact ⟨k + 1, a.reverse, rfl, .inr (Nat.succ_pos k)⟩
    · simp only [List.reverse_cons, List.reverse_nil, List.nil_append, List.cons_append]
      rw [if_pos trivial, tailB_iff]
      exact ⟨k + 1, a.reverse, rfl, .inr (Nat.succ_pos k)⟩
  · intro h
    cases hr : ps.reverse with
    | nil => rw [hr] at h; simp at h
    | cons p r =>
      rw [hr] at h
      simp only at h
      have e0 : ps = (p :: r).reverse := by rw [← hr, List.reverse_reverse]
      by_cases hp : p = 4
      · subst hp
        rw [if_pos rfl, tailB_iff] at h
        obtain ⟨k, a, rfl, hk⟩ := h
        obtain ⟨j, rfl⟩ : ∃ j, k = j + 1 := ⟨k - 1, by have := hk.resolve_left (by decide); omega⟩
        exact ⟨a.reverse, j, [4], by rw [e0]; simp [List.reverse_append], .inr rfl⟩
      · rw [if_neg hp, tailB_iff] at h
        obtain ⟨k, a, h2, hk⟩ := h
        obtain ⟨j, rfl⟩ : ∃ j, k = j + 1 := ⟨k - 1, by have := hk.resolve_left (by decide); omega⟩
        exact ⟨a.reverse, j, [], by rw [e0, h2]; simp [List.reverse_append], .inl rfl⟩
theorem hit_bnd {ps : List Int} (h : ∀ n ∈ ps, 0 ≤ n ∧ n < 6) : hitL (laidL 0 ps) = bnd ps := by
  rw [hitL_eq, hit_laid ps 0 h, hitP_bnd]
end Mine
end

section
open PySem
namespace Mine
theorem lcp2_split : ∀ (x y : List Int), x.length = y.length → x ≠ y → ∃ a b, a ≠ b ∧ lcp2 x y ++ [a] <+: x ∧ lcp2 x y ++ [b] <+: y
  | [], [], _, h => absurd rfl h
  | [], _ :: _, h, _ => by simp at h
  | _ :: _, [], h, _ => by simp at h
  | a :: r, b :: q, hl, hn => by
    by_cases e : a = b
    · subst e
      obtain ⟨c, d, h1, h2, h3⟩ := lcp2_split r q (by simpa using hl) (fun e => hn (by rw [e]))
      simp only [lcp2, if_true, List.cons_append]
      exact ⟨c, d, h1, (List.prefix_cons_inj a).mpr h2, (List.prefix_cons_inj a).mpr h3⟩
    · refine ⟨a, b, e, ?_, ?_⟩ <;> simp [lcp2, e]
theorem lcp2_of_split {p x y : List Int} {a b : Int} (h : a ≠ b) (hx : p ++ [a] <+: x) (hy : p ++ [b] <+: y) : lcp2 x y = p := by
  obtain ⟨s, rfl⟩ := hx
  obtain ⟨t, rfl⟩ := hy
  induction p with
  | nil => simp [lcp2, h]
  | cons c r ih => simp only [List.cons_append, lcp2, if_true, ih]
theorem lcp2_longer {p x y : List Int} {b : Int} (hx : p ++ [b] <+: x) (hy : p ++ [b] <+: y) : lcp2 x y ≠ p := by
  intro e
  have := (lcp2_most _ _ _ hx hy).length_le
  rw [e, List.length_append] at this
  simp at this
  omega
/-- Spehner's: one symbol behind what uv and vu begin with tells the first word -/
theorem tell_step {u v p Z : List Int} {a : Int} (hu : u ≠ []) (h1 : p ++ [a] <+: u ++ v) (h2 : p <+: v ++ u) (hZ : p <+: Z) : p ++ [a] <+: u ++ Z := by
  by_cases hl : (p ++ [a]).length ≤ u.length
  · exact (List.prefix_of_prefix_length_le h1 (List.prefix_append u v) hl).trans (List.prefix_append u Z)
  · obtain ⟨s, hs⟩ := List.prefix_of_prefix_length_le (List.prefix_append u v) h1 (by omega)
    have hsv : s <+: v := by
      rw [← hs] at h1
      exact (List.prefix_append_right_inj u).mp h1
    have hul := List.length_pos_iff.mpr hu
    have hlen : s.length ≤ p.length := by
      have := congrArg List.length hs
      simp at this
      omega
    have hsp : s <+: p := List.prefix_of_prefix_length_le (hsv.trans (List.prefix_append v u)) h2 hlen
    rw [← hs]
    exact (List.prefix_append_right_inj u).mpr (hsp.trans hZ)
structure Tell (u v p : List Int) (a b : Int) : Prop where
  ne : a ≠ b
  ha : p ++ [a] <+: u ++ v
  hb : p ++ [b] <+: v ++ u
  eq : lcp2 (u ++ v) (v ++ u) = p
theorem tell_of {u v : List Int} (h : u ++ v ≠ v ++ u) : ∃ a b, Tell u v (lcp2 (u ++ v) (v ++ u)) a b := by
  obtain ⟨a, b, h1, h2, h3⟩ := lcp2_split (u ++ v) (v ++ u) (by simp; omega) h
  exact ⟨a, b, h1, h2, h3, rfl⟩
theorem pre_snoc {p x : List Int} {a : Int} (h : p ++ [a] <+: x) : p <+: x := (List.prefix_append p [a]).trans h
section
variable {u v p Z : List Int} {a b : Int}
theorem Tell.one (T : Tell u v p a b) (hu : u ≠ []) (hZ : p <+: Z) : p ++ [a] <+: u ++ Z := tell_step hu T.ha (pre_snoc T.hb) hZ
theorem Tell.oth (T : Tell u v p a b) (hv : v ≠ []) (hZ : p <+: Z) : p ++ [b] <+: v ++ Z := tell_step hv T.hb (pre_snoc T.ha) hZ
/-- what the two commonprefixes of a rest say -/
theorem Tell.is_one (T : Tell u v p a b) (hu : u ≠ []) (hZ : p <+: Z) : lcp2 (u ++ Z) (v ++ u) = p ∧ lcp2 (u ++ v) (u ++ Z) ≠ p :=
  ⟨lcp2_of_split T.ne (T.one hu hZ) T.hb, lcp2_longer T.ha (T.one hu hZ)⟩
theorem Tell.is_oth (T : Tell u v p a b) (hv : v ≠ []) (hZ : p <+: Z) : lcp2 (v ++ Z) (v ++ u) ≠ p ∧ lcp2 (u ++ v) (v ++ Z) = p :=
  ⟨lcp2_longer (T.oth hv hZ) T.hb, lcp2_of_split T.ne T.ha (T.oth hv hZ)⟩
end
/-- the words for the numbers to come -/
def pick (f k done : List Int) (n : Int) : List Int := if decide (256 ≤ n) = !hitL (laidL 0 done) then f else k
def restL (f k : List Int) : List Int → List Int → List Int
  | _, [] => []
  | done, n :: r => pick f k done n ++ restL f k (done ++ pick f k done n) r
theorem pieces_rest (f k : List Int) : ∀ (ns done : List Int), piecesL f k done ns = done ++ restL f k done ns
  | [], done => by simp [piecesL, restL]
  | n :: r, done => by
    simp only [piecesL, restL]
    rw [pieces_rest f k r]
    simp [pick]
theorem rest_pre {f k p : List Int} {a b : Int} (T : Tell (f.map symI) (k.map symI) p a b) (hf : f ≠ []) (hk : k ≠ []) : ∀ (ns done : List Int), p <+: (restL f k done ns ++ (f ++ k)).map symI
  | [], done => by
    simp only [restL, List.nil_append, List.map_append]
    exact pre_snoc T.ha
  | n :: r, done => by
    have ih := rest_pre T hf hk r (done ++ pick f k done n)
    simp only [restL, List.append_assoc, List.map_append (l₁ := pick f k done n)]
    unfold pick
    split
    · rename_i h
      have := T.one (by simpa using hf) ih
      unfold pick at this
      rw [if_pos h] at this
      exact pre_snoc this
    · rename_i h
      have := T.oth (by simpa using hk) ih
      unfold pick at this
      rw [if_neg h] at this
      exact pre_snoc this
theorem same_pre {u v : List Int} (h : u ++ v = v ++ u) {f k : List Int} (hu : u = f.map symI) (hv : v = k.map symI) : ∀ (ns done : List Int), u ++ v <+: (restL f k done ns ++ (f ++ k)).map symI
  | [], done => by simp [restL, hu, hv]
  | n :: r, done => by
    have ih := same_pre h hu hv r (done ++ pick f k done n)
    simp only [restL, List.append_assoc, List.map_append (l₁ := pick f k done n)]
    obtain ⟨t, ht⟩ := ih
    rw [← ht]
    unfold pick
    split
    · rw [← hu]
      refine ⟨u ++ t, ?_⟩
      rw [h]
      simp only [List.append_assoc]
      rw [← List.append_assoc v u (u ++ t), ← h, List.append_assoc]
    · rw [← hv]
      refine ⟨v ++ t, ?_⟩
      conv => lhs; rw [h]
      simp only [List.append_assoc]
end Mine
end

section
open PySem PySem.W PyProof.Rows PySem.Calls PySem.SeqAt
set_option Elab.async false
set_option maxRecDepth 100000
set_option linter.unusedVariables false
namespace Mine
/-- no int is among them -/
def NoInts (its : List Value) : Prop := ∀ v ∈ its, ∀ k t, v ≠ .int k t
theorem Lv.Has.ne_list {g h : Heap} {L : Addr} {m : Str → Option Value} {news : List (Addr × Obj)} {z : Lv} {c : Addr} {its : List Value} {n : Nat} (x : z.Has g news) (F : Fr g L h m) (N : News g L h news) (hm : (c, W.listOf its.toArray n) ∈ news) (hn : NoInts its) (hz : z.ns ≠ []) : z.a ≠ c := by
  intro hac
  subst hac
  obtain ⟨o', ho, hcl, n', hd⟩ := x.at F N
  have := (N _ hm).1
  rw [ho] at this
  have e : o' = W.listOf its.toArray n := Option.some.inj this
  subst e
  have e2 : its = z.vs := by
    have := (Data.seq.inj hd).1
    simpa using this
  have hi := x.1
  rw [← e2] at hi
  revert hi hz
  generalize z.ns = q
  intro hz hi
  cases hi with
  | nil => exact hz rfl
  | cons k t r => exact hn _ (.head _) k t rfl
theorem Tv.Has.ne_list {g h : Heap} {L : Addr} {m : Str → Option Value} {news : List (Addr × Obj)} {z : Tv} {c : Addr} {its : List Value} {n : Nat} (x : z.Has g news) (F : Fr g L h m) (N : News g L h news) (hm : (c, W.listOf its.toArray n) ∈ news) : z.a ≠ c :=
  x.ne F N hm (.inl fun e => absurd (Value.type.inj e) (by decide))
theorem list_ne_cell {g h : Heap} {L c d : Addr} {news : List (Addr × Obj)} {its : Array Value} {n : Nat} {o : Obj} {v : Option Value} (N : News g L h news) (hm : (c, W.listOf its n) ∈ news) (hd : (d, o) ∈ news) (ho : o.data = .cell v) : d ≠ c := by
  rintro rfl
  have h1 := (N _ hm).1
  rw [(N _ hd).1] at h1
  have e : o = W.listOf its n := Option.some.inj h1
  rw [e] at ho
  exact nomatch ho
theorem list_ne_list {g h : Heap} {L c d : Addr} {news : List (Addr × Obj)} {its js : List Value} {n k : Nat} (N : News g L h news) (hm : (c, W.listOf its.toArray n) ∈ news) (hd : (d, W.listOf js.toArray k) ∈ news) (ho : its ≠ js) : d ≠ c := by
  rintro rfl
  have h1 := (N _ hm).1
  rw [(N _ hd).1] at h1
  have e : W.listOf js.toArray k = W.listOf its.toArray n := Option.some.inj h1
  have := (Data.seq.inj (congrArg Obj.data e)).1
  exact ho (by simpa using this.symm)
section
variable {g h : Heap} {L : Addr} {m : Str → Option Value} {news : List (Addr × Obj)} {fi ki : Lv} {one oth sh row : Tv} {ca c : Addr} {sy : Lv} {its : List Value} {n : Nat} {o : Obj}
theorem Ctx.upd (x : Ctx g news fi ki one oth sh row ca sy) (F : Fr g L h m) (N : News g L h news) (hm : (c, W.listOf its.toArray n) ∈ news) (hn : NoInts its) (hf : fi.ns ≠ []) (hk : ki.ns ≠ []) : Ctx g (upd c o news) fi ki one oth sh row ca sy :=
  ⟨x.fi.upd (x.fi.ne_list F N hm hn hf), x.ki.upd (x.ki.ne_list F N hm hn hk), x.one.upd (x.one.ne_list F N hm), x.oth.upd (x.oth.ne_list F N hm), x.sh.upd (x.sh.ne_list F N hm), x.row.upd (x.row.ne_list F N hm),
    let ⟨o', q, r⟩ := x.S.cell
    ⟨⟨o', upd_keep q (list_ne_cell N hm q r), r⟩, x.S.has.upd (x.S.has.ne_list F N hm hn (by rw [x.S.ns]; simp)), x.S.ns⟩⟩
end
section
variable {prog : Program} {w : World} {A : Around} {E : Value → Shared → Prop} {s : Shared} {g : Heap} {L : Addr} {m : Str → Option Value} {news : List (Addr × Obj)} {env : Env}
theorem append_upd {c : Addr} {its : List Value} {n : Nat} {x : Value} {Q : Value → Shared → Prop} (F : Fr g L s.heap m) (N : News g L s.heap news) (hm : (c, W.listOf its.toArray n) ∈ news)
    (h : ∀ h' news', news' = upd c (W.listOf (its ++ [x]).toArray (n + 1)) news → Fr g L h' m → News g L h' news' → Q .none { s with heap := h' }) (hsz : its.length ≤ 1000) :
    wpAny (model prog w) A (call (.builtin "list.append") [.ref c, x]) Q E s := by
  have z := N _ hm
  refine append_at (hsz := by rw [List.size_toArray, sizeLine_eq]; omega) z.1 fun h' hs ho' => h h' _ rfl (F.change hs z.2.1 z.2.2) (news_upd N hm hs ?_)
  simpa using ho'
theorem meth_append {c : Addr} {its : List Value} {n : Nat} {pl : Sem Bool} {Q : Value × List Value → Shared → Prop} (N : News g L s.heap news) (hm : (c, W.listOf its.toArray n) ∈ news) (h : Q (.builtin "list.append", [.ref c]) s) :
    wpAny (model prog w) A (getMethod (.ref c) "append" pl) Q E s := getMethod_list_append (N _ hm).1 rfl rfl h
theorem rests_last {value slice : PySem.Expr} {c : Addr} {its : List Value} {v : Value} {n : Nat} {u : Tok} {Q : Value → Shared → Prop} (N : News g L s.heap news) (hm : (c, W.listOf (its ++ [v]).toArray n) ∈ news) (h : Q v s)
    (hs : subscripted slice false (.ref c) (.int (-1) u) = operate [.ref c, .int (-1) u] (getItem (.ref c) (.int (-1) u)) := by with_unfolding_all rfl) (hg : ∀ r, letTemporaryGo value (.ref c) r = pure () := by intro _; with_unfolding_all rfl) :
    wpAny (model prog w) A (subscriptTail value slice (.ref c) (.int (-1) u)) Q E s := by
  have hl : s.heap.IsList c (its ++ [v]).toArray := ⟨_, (N _ hm).1, rfl, _, rfl⟩
  exact subscriptTail_builtin hl.typeIs slot_list_getitem.lookup (wpAny_getItem_list_neg hl (by decide) (by simp; omega) (by decide) (by
    have e : ((-1 : Int) + ((its ++ [v]).toArray.size : Int)).toNat = its.length := by simp; omega
    rw [e]; simp) h) hs hg
/-- a comprehension by an invariant -/
theorem comp_inv {elt : PySem.Expr} {x : Str} {scope : Scope} {cl : List (Str × Addr)} {S : List (Addr × Obj) → Prop} {P : Nat → Value → Prop} {Fin : List Value → List (Addr × Obj) → Prop} (J : Nat → List Value → List (Addr × Obj) → Prop) {n : Nat}
    (turn : ∀ i ys nw v I oI C oC D m₂ h tk (E' : Value → Shared → Prop), i < n → J i ys nw → P i v → LCg.NsObj oC m₂ → m₂ x = some v → Fr g L h m → News g L h ((I, oI) :: (C, oC) :: (D, LCg.lst ys) :: nw) → LCg.Off3 I C D nw →
      wpAny (model prog w) A (eval elt (compEnvC scope cl C env)) (LCg.CompEnd g L m { s with heap := h, toks := tk } I oI C oC D (LCg.lst ys) S (fun y nw' => J (i + 1) (ys ++ [y]) nw')) E' { s with heap := h, toks := tk })
    (fin : ∀ ys nw, J n ys nw → Fin ys nw) :
    ∀ (k i : Nat) (ys : List Value) nw, i + k = n → J i ys nw → LCg.CompRest prog w A g L m env elt x scope cl s S P Fin k i ys nw
  | 0, i, ys, nw, e, j => LCg.CompRest.zero (fin ys nw (by have : i = n := by omega
                                                           subst this; exact j))
  | k + 1, i, ys, nw, e, j => by
    refine LCg.CompRest.succ fun v I oI C oC D m₂ h tk E' hP hC hm2 F N off hne => ?_
    refine wpAny_mono (turn i ys nw v I oI C oC D m₂ h tk E' (by omega) j hP hC hm2 F N off) (fun y s₂ hy => ?_) fun _ _ e => e
    obtain ⟨h', tk', nw', e', F', N', off', hS, r⟩ := hy
    exact ⟨h', tk', nw', e', F', N', off', hS, comp_inv J turn fin k (i + 1) _ nw' (by omega) r⟩
/-- a copy of a tuple as a list, onto the ledger -/
theorem tv_list {x : Tv} {Q : Value → Shared → Prop} (F : Fr g L s.heap m) (N : News g L s.heap news) (hx : x.Has g news) (hz : x.ns.length ≤ 100000)
    (h : ∀ d k h', Fr g L h' m → News g L h' ((d, W.listOf x.vs.toArray k) :: news) → (∀ p ∈ news, p.1 ≠ d) → Q (.ref d) { s with heap := h' }) : wpAny (model prog w) A (call (.type "list") [.ref x.a]) Q E s := by
  refine list_copyTP F N (hx.at F N) (fun h' F' hk hn hl hp => ?_) (by rw [List.size_toArray, hx.len, sizeLine_eq]; omega)
  obtain ⟨⟨k, hd⟩, hne⟩ := hp
  refine h _ k h' F' (fun p hq => ?_) hne
  rcases List.mem_cons.mp hq with rfl | hq
  · exact ⟨hd, Ne.symm (Nat.ne_of_lt F.ns.lt), hn⟩
  · exact ⟨hk _ _ (N p hq).1, (N p hq).2⟩
end
end Mine
end

section
set_option maxHeartbeats 1000000
open PySem PySem.W PyProof.Rows PySem.Calls PyProof.V PySem.Spec PySem.SeqAt
set_option Elab.async false
set_option maxRecDepth 100000
set_option linter.unusedVariables false
namespace Mine
section
variable {prog : Program} {w : World} {A : Around} {E : Value → Shared → Prop} {s : Shared} {env : Env} {h₀ : Heap} {x : Str} {body : List Stmt} {Q : Flow → Shared → Prop}
theorem ff_list2 {σ : Type} {l : Addr} {vs : List Value} {ns : List Int} {m₀ : Str → Option Value} {news : List (Addr × Obj)} (ps : σ → List (Str × Value)) (Facts : List Int → σ → List (Addr × Obj) → Prop) (stored : List Str) (c₀ : σ)
    (hh : A.handled = none) (hl : s.heap.IsList l vs.toArray) (hlL : l ≠ env.locals) (hi : IntsAre vs ns) (F : Fr h₀ env.locals s.heap m₀) (N : News h₀ env.locals s.heap news) (hf : Facts [] c₀ news) (hk : ∀ p ∈ ps c₀, m₀ p.1 = some p.2)
    (turn : ∀ (c : σ) pre post n t (u : Str → Option Value) h tk own nx I, ns = pre ++ n :: post → IsIter I own → (∀ p ∈ own, p.1 = I ∨ p.1 = l) → Facts pre c nx →
      Fr h₀ env.locals h (fun y => if y = x then some (.int n t) else kstB (fun z => if stored.contains z then u z else m₀ z) (ps c) y) → News h₀ env.locals h (nx ++ own) →
      wpAny (model prog w) A (execs body env) (FfPost h₀ env.locals { s with heap := h, toks := tk } ps Facts x stored m₀ (pre ++ [n]) own I Q) E { s with heap := h, toks := tk })
    (done : ∀ (c : σ) (u : Str → Option Value) h tk nx, Facts ns c nx → Fr h₀ env.locals h (fun y => if y = x then u y else kstB (fun z => if stored.contains z then u z else m₀ z) (ps c) y) → News h₀ env.locals h nx → Q .next { s with heap := h, toks := tk }) :
    wpAny (model prog w) A (pyIter (.ref l)) (fun it s₂ => LoopAtV prog w A h₀ env x body Q E it s₂) E s := by
  obtain ⟨ol, hol, _⟩ := id hl
  have hne : l ≠ s.heap.objs.size := Nat.ne_of_lt (Heap.lt_size hol)
  refine wpAny_pyIter_list hl ?_
  have W := Walks.list (prog := prog) (w := w) hh s.heap.objs.size l hne vs.toArray
  have hlen : vs.toArray.size = ns.length := by simp [hi.length]
  rw [hlen] at W
  let J' : Nat → (Str → Option Value) → List (Addr × Obj) → Prop := fun i m₁ nx => ∃ c : σ, Facts (ns.take i) c nx ∧ (∀ p ∈ ps c, m₁ p.1 = some p.2) ∧ ∀ z, z ≠ x → (∀ p ∈ ps c, z ≠ p.1) → stored.contains z = false → m₁ z = m₀ z
  refine ⟨_, _, _, ns.length, _, _, m₀, news, J', rfl, W, ?_, ?_, ?_, ⟨⟨_, Heap.get?_push_size _ rfl, rfl, rfl⟩, hl.at fun o e => Heap.get?_push_of_some _ e⟩, F.push _, (fun p hp => ⟨Heap.get?_push_of_some _ (N p hp).1, (N p hp).2⟩), ⟨c₀, by simpa using hf, hk, fun _ _ _ _ => rfl⟩, ?_, ?_⟩
  · intro hm
    rcases List.mem_cons.mp hm with e | hm
    · exact absurd F.ns.lt (e ▸ Nat.lt_irrefl _)
    · exact hlL (List.mem_singleton.mp hm).symm
  · intro b hb
    rw [List.mem_singleton.mp hb]
    exact next_is_new F
  · intro p hp hI
    exact absurd (Heap.lt_size (N p hp).1) ((List.mem_singleton.mp hI) ▸ Nat.lt_irrefl _)
  · rintro i v m₁ news₁ s₁ own ⟨hh', tk', rfl⟩ hin hP ⟨c, hf', h1, h2⟩ hoff hown hget hall st F₁ N₁
    have hlt' : i < ns.length := hin
    obtain ⟨t, hx⟩ := hi.get i ns[i] (by simp [hlt'])
    have hv : v = .int ns[i] t := by
      have hP' : vs[i]? = some v := by simpa using hP
      rw [hx] at hP'; exact (Option.some.inj hP').symm
    subst hv
    have N₂ : News h₀ env.locals hh' (news₁ ++ own) := fun p hp => N₁ p ((List.mem_append.mp hp).elim (fun h => List.mem_append.mpr (.inr h)) fun h => List.mem_append.mpr (.inl h))
    have hs : ns.take (i + 1) = ns.take i ++ [ns[i]] := by rw [List.take_add_one, List.getElem?_eq_getElem hlt']; rfl
    have e : ns = ns.take i ++ ns[i] :: ns.drop (i + 1) := by
      have ht := List.take_append_drop (i + 1) ns
      rw [hs, List.append_assoc] at ht
      exact ht.symm
    obtain ⟨⟨oi, ho1, ho2, ho3⟩, _⟩ := st
    have hI : IsIter s.heap.objs.size own := ⟨oi, hall _ (.head _) (next_is_new F) _ ho1, ho2, _, ho3⟩
    have hownA : ∀ p ∈ own, p.1 = s.heap.objs.size ∨ p.1 = l := fun p hp => (List.mem_cons.mp (hown p hp)).imp id fun q => List.mem_singleton.mp q
    refine wpAny_mono (turn c _ _ ns[i] t m₁ hh' tk' own news₁ s.heap.objs.size e hI hownA hf' (kst_fr h1 h2 F₁) N₂) (fun f s₂ p => ?_) fun _ _ e => e
    have fin : FfEnd h₀ env.locals { s with heap := hh', toks := tk' } ps Facts x stored m₀ (ns.take i ++ [ns[i]]) own s.heap.objs.size s₂ → LoopStepU h₀ env.locals [s.heap.objs.size] own (J' (i + 1)) { s with heap := hh', toks := tk' } .next s₂ := by
      rintro ⟨c', h', tk, m', news', e, F', N', ho, hf3, hk3, hr3⟩
      refine ⟨rfl, h', tk, m', news'.filter fun p => p.1 != s.heap.objs.size, e, F', fun p hp => N' p ((List.mem_append.mp hp).elim (ho p) fun q => (List.mem_filter.mp q).1), fun p hp hq => ?_, c', by rw [hs]; exact hf3, hk3, hr3⟩
      have h1 := (List.mem_filter.mp hp).2
      rw [List.mem_singleton.mp hq] at h1
      simp at h1
    cases f with
    | ret v => exact .ret p
    | brk => exact .brk p
    | next => exact .next (fin p)
    | cont => exact .cont (fin p)
  · rintro h' tk m' news' F' N' _ ⟨c, hf', h1, h2⟩
    rw [List.take_length] at hf'
    exact done c m' h' tk news' hf' (kst_frOut h1 h2 F') N'
end

theorem readsAll_of_bools {h : Heap} : ∀ bs : List Bool, ReadsAll h (bs.map Value.bool) (bs.map PyData.bool) []
  | [] => .nil
  | b :: r => by
    have := ReadsAll.cons (Reads.bool (h := h) b) (readsAll_of_bools (h := h) r)
    simpa using this
theorem reads_of_bools {h : Heap} {a : Addr} {bs : List Bool} (hl : h.IsList a (bs.map Value.bool).toArray) : Reads h (.ref a) (.list (bs.map PyData.bool)) [a] := by
  obtain ⟨o, ho, hc, n, hd⟩ := hl
  exact Reads.list ho hc hd (by simpa using readsAll_of_bools bs)
theorem canLayAll0_bools : ∀ bs : List Bool, PyData.canLayAll0 (bs.map PyData.bool) = true
  | [] => by simp [PyData.canLayAll0]
  | n :: r => by simp [PyData.canLayAll0, PyData.canLay0, canLayAll0_bools r]
theorem depthAll_bools : ∀ bs : List Bool, PyData.depthAll (bs.map PyData.bool) ≤ 1
  | [] => by simp [PyData.depthAll]
  | n :: r => by
    have := depthAll_bools r
    simp only [List.map_cons, PyData.depthAll, PyData.depth]
    omega
theorem shaped_bools (bs : List Bool) : shaped (.list (bs.map PyData.bool)) = true := by
  have h1 := depthAll_bools bs
  have h2 : PyData.depth (.list (bs.map PyData.bool)) ≤ 64 := by simp only [PyData.depth]; omega
  show (PyData.canLay0 (.list (bs.map PyData.bool)) && decide (PyData.depth (.list (bs.map PyData.bool)) ≤ 64)) = true
  rw [Bool.and_eq_true]
  exact ⟨by simp only [PyData.canLay0]; exact canLayAll0_bools bs, decide_eq_true h2⟩
theorem noMix_bools : ∀ ns ms : List Bool, noMixAll (ns.map PyData.bool) (ms.map PyData.bool) = true
  | [], [] => by simp [noMixAll]
  | [], _ :: _ => by simp [noMixAll]
  | _ :: _, [] => by simp [noMixAll]
  | _ :: r, _ :: q => by simp [noMixAll, noMix, noMix_bools r q]
theorem same_bools : ∀ ns : List Bool, PySem.Spec.sameAll (ns.map PyData.bool) (ns.map PyData.bool) = true
  | [] => by simp [PySem.Spec.sameAll]
  | n :: r => by
    simp only [List.map_cons, PySem.Spec.sameAll, PySem.Spec.same, same_bools r]
    simp
section
variable {prog : Program} {w : World} {A : Around} {E : Value → Shared → Prop} {s : Shared} {g : Heap} {L : Addr} {m : Str → Option Value} {news : List (Addr × Obj)}
theorem eq_bools {a b : Addr} {bs : List Bool} {Q : Value → Shared → Prop} (hl : s.heap.IsList a (bs.map Value.bool).toArray) (hl' : s.heap.IsList b (bs.map Value.bool).toArray) (hu : A.units + 64 < cLine)
    (h : Q (.bool true) s) : wpAny (model prog w) A (compareOp .Eq (.ref a) (.ref b)) Q E s :=
  eq_dataH_same (reads_of_bools hl) (reads_of_bools hl') (shaped_bools bs) (shaped_bools bs) hu (by simp only [SeqAt.noMix]; exact noMix_bools bs bs) (by simp only [PySem.Spec.same]; rw [same_bools]; exact h)
theorem eq_lists {a b : Addr} {vs us : List Value} {ns : List Int} {Q : Value → Shared → Prop} (hl : s.heap.IsList a vs.toArray) (hi : IntsAre vs ns) (hl' : s.heap.IsList b us.toArray) (hi' : IntsAre us ns) (hu : A.units + 64 < cLine)
    (h : Q (.bool true) s) : wpAny (model prog w) A (compareOp .Eq (.ref a) (.ref b)) Q E s := eq_intsK hl hi hl' hi' hu (by simpa using h)
theorem add_vals {a b : Addr} {vs ws : List Value} {n k : Nat} {Q : Value → Shared → Prop} (F : Fr g L s.heap m) (N : News g L s.heap news) (ha : (a, W.listOf vs.toArray n) ∈ news) (hb : (b, W.listOf ws.toArray k) ∈ news) (hsz : vs.length + ws.length ≤ 1000)
    (h : ∀ d h', Fr g L h' m → News g L h' ((d, W.listOf (vs ++ ws).toArray 0) :: news) → Q (.ref d) { s with heap := h' }) :
    wpAny (model prog w) A (binaryOp .Add (.ref a) (.ref b)) Q E s :=
  add_lists F N ⟨_, (N _ ha).1, rfl, _, rfl⟩ ⟨_, (N _ hb).1, rfl, _, rfl⟩ (fun h' F' N' => h _ h' F' N') (by rw [sizeLine_eq]; omega)
end
end Mine
end

section
open PySem
namespace Mine
theorem lcp2_pre_of {x p : List Int} (h : p <+: x) : lcp2 x p = p := lcp2_iff h (List.prefix_refl _) (lcp2_right _ _)
/-- branch A's last question -/
theorem pA {f k ns rowN u v sh : List Int} (hu : u = f.map symI) (hv : v = k.map symI) (hrow : rowN = (piecesL f k [] ns ++ (f ++ k)).map symI) (hsh : sh = lcp2 (u ++ v) (v ++ u)) (hEq : sh = u ++ v) : lcp2 rowN (v ++ u) = sh := by
  have h1 : u ++ v <+: v ++ u := by rw [← hEq, hsh]; exact lcp2_right _ _
  have h2 : u ++ v = v ++ u := h1.eq_of_length (by simp; omega)
  rw [hEq, ← h2]
  refine lcp2_pre_of ?_
  rw [hrow, pieces_rest, List.nil_append]
  exact same_pre h2 hu hv ns []
theorem bnd_pick {f k done : List Int} {n : Int} (h : ∀ x ∈ done, 0 ≤ x ∧ x < 6) : pick f k done n = if decide (255 < n) = !bnd done then f else k := by
  unfold pick
  rw [hit_bnd h, show decide (255 < n) = decide (256 ≤ n) from decide_eq_decide.mpr (by omega)]
/-- what branch B keeps of the page that is left -/
structure Left (f k sh : List Int) (pre ns : List Int) (l : List Int) : Prop where
  eq : l = (restL f k (piecesL f k [] pre) (ns.drop pre.length) ++ (f ++ k)).map symI
theorem left_start {f k sh ns rowN : List Int} (h : rowN = (piecesL f k [] ns ++ (f ++ k)).map symI) : Left f k sh [] ns rowN := ⟨by rw [h, pieces_rest]; simp [piecesL]⟩
section
variable {f k sh pre ns post l : List Int} {n : Int}
theorem left_turn (L : Left f k sh pre ns l) (e : ns = pre ++ n :: post) :
    l = (pick f k (piecesL f k [] pre) n).map symI ++ (restL f k (piecesL f k [] (pre ++ [n])) post ++ (f ++ k)).map symI := by
  rw [L.eq, e]
  have e1 : (pre ++ n :: post).drop pre.length = n :: post := by simp
  rw [e1, piecesL_app]
  simp only [restL, List.append_assoc, List.map_append, pick]
theorem left_next (e : ns = pre ++ n :: post) : Left f k sh (pre ++ [n]) ns ((restL f k (piecesL f k [] (pre ++ [n])) post ++ (f ++ k)).map symI) := ⟨by
  have e1 : ns.drop (pre ++ [n]).length = post := by rw [e]; simp
  rw [e1]⟩
theorem left_end (L : Left f k sh ns ns l) : l = f.map symI ++ k.map symI := by
  rw [L.eq]; simp [restL]
end
theorem pB_tell {u v sh : List Int} (hsh : sh = lcp2 (u ++ v) (v ++ u)) (hEq : ¬ sh = u ++ v) : ∃ a b, Tell u v sh a b := by
  have h : u ++ v ≠ v ++ u := fun e => hEq (by rw [hsh, e, ← e]; exact lcp2_self _)
  obtain ⟨a, b, T⟩ := tell_of h
  exact ⟨a, b, hsh ▸ T⟩
end Mine
end

section
open PySem PySem.W PyProof.Rows PySem.Calls PySem.SeqAt
set_option Elab.async false
set_option maxRecDepth 100000
set_option linter.unusedVariables false
namespace Mine
theorem three_lists2 {g h : Heap} {L t a b c : Addr} {o : Obj} {v : Value} {news : List (Addr × Obj)} (N : News g L h ((t, o) :: (a, W.listOf #[] 0) :: (b, W.listOf #[] 0) :: (c, W.listOf #[v] 0) :: news)) (hab : @Ne Nat a b) (hac : @Ne Nat a c) (hbc : @Ne Nat b c) :
    ∃ (nw : List (Addr × Obj)) (a' b' c' : Addr), a' = a ∧ b' = b ∧ c' = c ∧ @Ne Nat a' b' ∧ @Ne Nat a' c' ∧ @Ne Nat b' c' ∧ (a', W.listOf #[] 0) ∈ nw ∧ (b', W.listOf #[] 0) ∈ nw ∧ (c', W.listOf #[v] 0) ∈ nw ∧ (∀ p ∈ news, p ∈ nw) ∧ News g L h nw :=
  ⟨_, a, b, c, rfl, rfl, rfl, hab, hac, hbc, .tail _ (.head _), .tail _ (.tail _ (.head _)), .tail _ (.tail _ (.tail _ (.head _))), fun _ q => .tail _ (.tail _ (.tail _ (.tail _ q))), N⟩
theorem iter_ne {g h : Heap} {L I c : Addr} {own news : List (Addr × Obj)} {its : Array Value} {n : Nat} (N : News g L h news) (hI : IsIter I own) (ho : ∀ p ∈ own, p ∈ news) (hm : (c, W.listOf its n) ∈ news) : I ≠ c := by
  rintro rfl
  obtain ⟨oi, h1, h2, _⟩ := hI
  have e1 := (N _ (ho _ h1)).1
  rw [(N _ hm).1] at e1
  have e3 : W.listOf its n = oi := Option.some.inj e1
  rw [← e3] at h2
  exact absurd (Value.type.inj h2) (by decide)
theorem own_upd {I l c : Addr} {own news : List (Addr × Obj)} {o : Obj} (ho : ∀ p ∈ own, p ∈ news) (hA : ∀ p ∈ own, p.1 = I ∨ p.1 = l) (hI : I ≠ c) (hl : l ≠ c) : ∀ p ∈ own, p ∈ upd c o news := fun p hp =>
  upd_keep (a := p.1) (o := p.2) (ho p hp) ((hA p hp).elim (fun e => e ▸ hI) fun e => e ▸ hl)
/-- the rests, the last of them apart -/
def refsOf (rs : List Tv) (last : Tv) : List Value := rs.map (fun r => Value.ref r.a) ++ [Value.ref last.a]
/-- the ledger's part of branch B -/
structure BLed (g : Heap) (news : List (Addr × Obj)) (ce fi ki : Lv) (one oth sh row : Tv) (ca : Addr) (sy : Lv) (lt lr : Addr) (z : Lv) (tvs : List Value) (tn : Nat) (rs : List Tv) (last : Tv) (rn : Nat) : Prop where
  ctx : Ctx g news fi ki one oth sh row ca sy
  z : z.Has g news
  told : (lt, W.listOf tvs.toArray tn) ∈ news
  rests : (lr, W.listOf (refsOf rs last).toArray rn) ∈ news
  last : last.Has g news
  rs : ∀ r ∈ rs, r.Has g news
  ce : ce.Has g news
section
variable {g h : Heap} {L I : Addr} {m : Str → Option Value} {news news' own : List (Addr × Obj)} {ce fi ki : Lv} {one oth sh row : Tv} {ca lt lr : Addr} {sy z z' : Lv} {tvs : List Value} {tn rn : Nat} {rs : List Tv} {last y : Tv} {x : Value}
theorem BLed.mono (b : BLed g news ce fi ki one oth sh row ca sy lt lr z tvs tn rs last rn) (h : ∀ p ∈ news, p ∈ news') : BLed g news' ce fi ki one oth sh row ca sy lt lr z tvs tn rs last rn :=
  ⟨b.ctx.mono h, b.z.mono h, h _ b.told, h _ b.rests, b.last.mono h, fun r hr => (b.rs r hr).mono h, b.ce.mono h⟩
theorem BLed.off (b : BLed g news ce fi ki one oth sh row ca sy lt lr z tvs tn rs last rn) (N : News g L h news) (hI : IsIter I own) (ho : ∀ p ∈ own, p ∈ news) : BLed g (news.filter fun p => p.1 != I) ce fi ki one oth sh row ca sy lt lr z tvs tn rs last rn :=
  ⟨b.ctx.off N hI ho, b.z.off N hI ho, mem_off N hI ho b.told (fun e => absurd (Value.type.inj e) (by decide)), mem_off N hI ho b.rests (fun e => absurd (Value.type.inj e) (by decide)), b.last.off N hI ho, fun r hr => (b.rs r hr).off N hI ho, b.ce.off N hI ho⟩
theorem BLed.done (b : BLed g news ce fi ki one oth sh row ca sy lt lr z tvs tn rs last rn) (hz : z'.Has g news) : BLed g news ce fi ki one oth sh row ca sy lt lr z' tvs tn rs last rn := ⟨b.ctx, hz, b.told, b.rests, b.last, b.rs, b.ce⟩
theorem noRefs {ts : List Tv} : NoInts (refsOf ts last) := by
  intro v hv k t e
  rcases List.mem_append.mp hv with hv | hv
  · obtain ⟨r, _, e2⟩ := List.mem_map.mp hv
    rw [e] at e2; cases e2
  · rw [List.mem_singleton.mp hv] at e; cases e
theorem noBools {α : Type} {f : α → Bool} {ts : List α} : NoInts (ts.map fun n => Value.bool (f n)) := by
  intro v hv k t e
  obtain ⟨r, _, e2⟩ := List.mem_map.mp hv
  rw [e] at e2; cases e2
theorem BLed.appT (b : BLed g news ce fi ki one oth sh row ca sy lt lr z tvs tn rs last rn) (F : Fr g L h m) (N : News g L h news) (hn : NoInts tvs) (hf : fi.ns ≠ []) (hk : ki.ns ≠ []) (hc : ce.ns ≠ []) (hz : z.a ≠ lt) (hl : lr ≠ lt) :
    BLed g (upd lt (W.listOf (tvs ++ [x]).toArray (tn + 1)) news) ce fi ki one oth sh row ca sy lt lr z (tvs ++ [x]) (tn + 1) rs last rn :=
  ⟨b.ctx.upd F N b.told hn hf hk, b.z.upd hz, upd_mem b.told, upd_keep b.rests hl, b.last.upd (b.last.ne_list F N b.told), fun r hr => (b.rs r hr).upd ((b.rs r hr).ne_list F N b.told), b.ce.upd (b.ce.ne_list F N b.told hn hc)⟩
theorem BLed.appR (b : BLed g news ce fi ki one oth sh row ca sy lt lr z tvs tn rs last rn) (F : Fr g L h m) (N : News g L h news) (hy : y.Has g news) (hf : fi.ns ≠ []) (hk : ki.ns ≠ []) (hc : ce.ns ≠ []) (hz : z.a ≠ lr) (hl : lt ≠ lr) :
    BLed g (upd lr (W.listOf (refsOf rs last ++ [Value.ref y.a]).toArray (rn + 1)) news) ce fi ki one oth sh row ca sy lt lr z tvs tn (rs ++ [last]) y (rn + 1) :=
  ⟨b.ctx.upd F N b.rests noRefs hf hk, b.z.upd hz, upd_keep b.told hl, by
    have e : refsOf rs last ++ [Value.ref y.a] = refsOf (rs ++ [last]) y := by simp [refsOf]
    rw [e]; exact upd_mem b.rests, hy.upd (hy.ne_list F N b.rests), fun r hr => by
    rcases List.mem_append.mp hr with hr | hr
    · exact (b.rs r hr).upd ((b.rs r hr).ne_list F N b.rests)
    · rw [List.mem_singleton.mp hr]; exact b.last.upd (b.last.ne_list F N b.rests), b.ce.upd (b.ce.ne_list F N b.rests noRefs hc)⟩
end
/-- branch B between the turns -/
structure BSt where
  z : Lv
  tn : Nat
  rs : List Tv
  last : Tv
  rn : Nat
structure BSt.ok (g : Heap) (ce fi ki : Lv) (one oth sh row : Tv) (ca : Addr) (sy : Lv) (lt lr : Addr) (ns : List Int) (pre : List Int) (c : BSt) (news : List (Addr × Obj)) : Prop where
  led : BLed g news ce fi ki one oth sh row ca sy lt lr c.z (pre.map fun n => Value.bool (decide (255 < n))) c.tn c.rs c.last c.rn
  ens : c.z.ns = piecesL fi.ns ki.ns [] pre
  nt : c.z.a ≠ lt
  nr : c.z.a ≠ lr
  left : Left fi.ns ki.ns sh.ns pre ns c.last.ns
  len : c.rs.length = pre.length
  hpre : ∀ r ∈ c.rs, sh.ns <+: r.ns ∧ r.ns.length ≤ 100
  lz : c.last.ns.length ≤ 100
abbrev bstOf {g : Heap} {news : List (Addr × Obj)} {fi ki : Lv} {one oth sh row : Tv} {ca : Addr} {sy : Lv} (_ : Ctx g news fi ki one oth sh row ca sy) (ce : Lv) (lt lr : Addr) (ns : List Int) : List Int → BSt → List (Addr × Obj) → Prop := BSt.ok g ce fi ki one oth sh row ca sy lt lr ns
end Mine
end

section
open PySem PySem.W PyProof.Rows PySem.Calls PySem.SeqAt
set_option Elab.async false
set_option maxRecDepth 100000
set_option linter.unusedVariables false
namespace Mine
section
variable {prog : Program} {w : World} {A : Around} {E : Value → Shared → Prop} {s : Shared} {g : Heap} {L : Addr} {m : Str → Option Value} {news : List (Addr × Obj)} {env : Env}
theorem news_swap {h : Heap} {a b : Addr × Obj} (N : News g L h (a :: b :: news)) : News g L h (b :: a :: news) := fun p hp => N p (by
  rcases List.mem_cons.mp hp with rfl | hp
  · exact .tail _ (.head _)
  · rcases List.mem_cons.mp hp with rfl | hp
    · exact .head _
    · exact .tail _ (.tail _ hp))
/-- a comprehension over ints whose items are bools -/
theorem bool_src {f : Int → Bool} {elt : PySem.Expr} {x : Str} {scope : Scope} {cl : List (Str × Addr)} {Q : Value → Shared → Prop} {X : Lv} (F : Fr g L s.heap m) (N : News g L s.heap news) (hX : X.Has g news) (hz : X.ns.length ≤ 100000) (hh : A.handled = none)
    (turn : ∀ (n : Int) (t : Tok) C oC m₂ nw h tk (E' : Value → Shared → Prop) (Q' : Value → Shared → Prop), LCg.NsObj oC m₂ → m₂ x = some (.int n t) → Fr g L h m → News g L h ((C, oC) :: nw) → (∀ tk', Q' (.bool (f n)) { s with heap := h, toks := tk' }) →
      wpAny (model prog w) A (eval elt (compEnvC scope cl C env)) Q' E' { s with heap := h, toks := tk })
    (h : ∀ D h' tk, Fr g L h' m → News g L h' ((D, W.listOf ((X.ns.map f).map Value.bool).toArray X.ns.length) :: news) → Q (.ref D) { s with heap := h', toks := tk }) :
    LCg.CompSrc prog w A g L m env elt x scope cl (fun s₂ => LCg.FinE g L m s₂ Q) (.ref X.a) s := by
  have hS : LCg.SrcAt g X.a X.vs.toArray news := hX.2.imp id fun ⟨o, n, q, hc, hd⟩ => ⟨o, q, hc, n, hd⟩
  refine .inl ⟨X.a, X.vs.toArray, news, rfl, hh, F, N, hS, by rw [List.size_toArray, hX.len, sizeLine_eq]; omega, ?_⟩
  rintro s₂ ⟨hp, rfl⟩
  refine comp_inv (n := X.ns.length) (fun i ys nw => nw = news ∧ ys = ((X.ns.take i).map f).map Value.bool) ?_ ?_ _ 0 [] news (by rw [List.size_toArray, hX.len]; omega) ⟨rfl, rfl⟩
  · rintro i ys nw v I oI C oC D m₂ h₂ tk E' hi ⟨rfl, rfl⟩ hP hC hm2 F2 N2 off
    have hP' : X.vs[i]? = some v := by simpa using hP
    obtain ⟨t, ht⟩ := hX.1.get i X.ns[i] (by simp [hi])
    rw [ht] at hP'
    have hv := Option.some.inj hP'
    subst hv
    refine turn X.ns[i] t C oC m₂ _ h₂ tk E' _ hC hm2 F2 (news_swap N2) fun tk' => ?_
    · refine LCg.CompEnd.intro F2 N2 nw (fun p q => q) off hS ⟨rfl, ?_⟩
      have e : X.ns.take (i + 1) = X.ns.take i ++ [X.ns[i]] := by rw [List.take_add_one, List.getElem?_eq_getElem hi]; rfl
      rw [e, List.map_append, List.map_append]
      rfl
  · rintro ys nw ⟨rfl, rfl⟩ D h₂ tk F2 N2 _
    rw [List.take_length] at N2
    refine h D h₂ tk F2 ?_
    have e : LCg.lst ((X.ns.map f).map Value.bool) = W.listOf ((X.ns.map f).map Value.bool).toArray X.ns.length := by simp [LCg.lst, W.listOf]
    rw [e] at N2
    exact N2
theorem sub_news2 {g h : Heap} {L : Addr} {a b : Addr × Obj} {news : List (Addr × Obj)} (_ : News g L h (a :: b :: news)) : ∀ p ∈ news, p ∈ a :: b :: news := fun _ q => .tail _ (.tail _ q)
theorem sub_news1 {g h : Heap} {L : Addr} {a : Addr × Obj} {news : List (Addr × Obj)} (_ : News g L h (a :: news)) : ∀ p ∈ news, p ∈ a :: news := fun _ q => .tail _ q
def tref (t : Tv) : Value := .ref t.a
def lref (t : Lv) : Value := .ref t.a
/-- a comprehension that makes a list of each tuple -/
theorem lists_src {elt : PySem.Expr} {x : Str} {scope : Scope} {cl : List (Str × Addr)} {Q : Value → Shared → Prop} {ts : List Tv} {ax : Addr} {k : Nat} (F : Fr g L s.heap m) (N : News g L s.heap news) (hm : (ax, W.listOf (ts.map tref).toArray k) ∈ news) (hts : ∀ t ∈ ts, t.Has g news)
    (hz : ∀ t ∈ ts, t.ns.length ≤ 1000) (hl : ts.length ≤ 1000) (hh : A.handled = none)
    (turn : ∀ (t : Tv) C oC m₂ nw h tk (E' : Value → Shared → Prop) (Q' : Value → Shared → Prop), LCg.NsObj oC m₂ → m₂ x = some (.ref t.a) → Fr g L h m → News g L h ((C, oC) :: nw) → wpAny (model prog w) A (call (.type "list") [.ref t.a]) Q' E' { s with heap := h, toks := tk } →
      wpAny (model prog w) A (eval elt (compEnvC scope cl C env)) Q' E' { s with heap := h, toks := tk })
    (h : ∀ (ls : List Lv) D h' tk news', ls.map Lv.ns = ts.map Tv.ns → (∀ l ∈ ls, l.Has g news') → (∀ p ∈ news, p ∈ news') → Fr g L h' m → News g L h' ((D, W.listOf (ls.map lref).toArray ls.length) :: news') → Q (.ref D) { s with heap := h', toks := tk }) :
    LCg.CompSrc prog w A g L m env elt x scope cl (fun s₂ => LCg.FinE g L m s₂ Q) (.ref ax) s := by
  have hS : LCg.SrcAt g ax (ts.map tref).toArray news := .inr ⟨_, hm, rfl, _, rfl⟩
  refine .inl ⟨ax, (ts.map tref).toArray, news, rfl, hh, F, N, hS, by rw [List.size_toArray, List.length_map, sizeLine_eq]; omega, ?_⟩
  rintro s₂ ⟨hp, rfl⟩
  refine comp_inv (n := ts.length) (fun i ys nw => (∀ p ∈ news, p ∈ nw) ∧ ∃ ls : List Lv, ys = ls.map lref ∧ ls.map Lv.ns = (ts.take i).map Tv.ns ∧ ∀ l ∈ ls, l.Has g nw) ?_ ?_ _ 0 [] news (by rw [List.size_toArray, List.length_map]; omega) ⟨fun _ q => q, [], rfl, rfl, fun _ q => nomatch q⟩
  · rintro i ys nw v I oI C oC D m₂ h₂ tk E' hi ⟨hsub, ls, rfl, hns, hls⟩ hP hC hm2 F2 N2 off
    have hv : .ref ts[i].a = v := by
      have : (ts.map tref)[i]? = some v := by simpa using hP
      rw [List.getElem?_map, List.getElem?_eq_getElem hi] at this
      exact Option.some.inj this
    subst hv
    have hti := hts ts[i] (List.getElem_mem hi)
    have sub3 : ∀ p ∈ nw, p ∈ (I, oI) :: (C, oC) :: (D, LCg.lst (ls.map lref)) :: nw := fun p q => .tail _ (.tail _ (.tail _ q))
    refine turn ts[i] C oC m₂ _ h₂ tk E' _ hC hm2 F2 (news_swap N2) ?_
    · refine tv_list F2 N2 (hti.mono fun p q => sub3 p (hsub p q)) (by have := hz ts[i] (List.getElem_mem hi); omega) fun d k h' F3 N3 hne => ?_
      refine LCg.CompEnd.intro F3 N3 ((d, W.listOf ts[i].vs.toArray k) :: nw) (fun p hp => ?_) ⟨⟨(hne _ (.head _)).symm, (hne _ (.tail _ (.head _))).symm, (hne _ (.tail _ (.tail _ (.head _)))).symm⟩, off⟩ (.inr ⟨_, .tail _ (hsub _ hm), rfl, _, rfl⟩) ⟨fun p q => .tail _ (hsub p q), ls ++ [⟨d, ts[i].vs, ts[i].ns⟩], by rw [List.map_append]; rfl, ?_, fun l hl => ?_⟩
      · rcases List.mem_cons.mp hp with rfl | hp
        · exact .tail _ (.head _)
        · rcases List.mem_cons.mp hp with rfl | hp
          · exact .tail _ (.tail _ (.head _))
          · rcases List.mem_cons.mp hp with rfl | hp
            · exact .tail _ (.tail _ (.tail _ (.head _)))
            · rcases List.mem_cons.mp hp with rfl | hp
              · exact .head _
              · exact .tail _ (.tail _ (.tail _ (.tail _ hp)))
      · have e : ts.take (i + 1) = ts.take i ++ [ts[i]] := by rw [List.take_add_one, List.getElem?_eq_getElem hi]; rfl
        rw [List.map_append, hns, e, List.map_append]
        rfl
      · rcases List.mem_append.mp hl with hl | hl
        · exact (hls l hl).mono fun p q => .tail _ q
        · rw [List.mem_singleton.mp hl]
          exact .of_new hti.1 (.head _)
  · rintro ys nw ⟨hsub, ls, rfl, hns, hls⟩ D h₂ tk F2 N2 _
    rw [List.take_length] at hns
    refine h ls D h₂ tk nw hns hls hsub F2 ?_
    have e : LCg.lst (ls.map lref) = W.listOf (ls.map lref).toArray ls.length := by simp [LCg.lst, W.listOf]
    rw [e] at N2
    exact N2
end
theorem rows_lists {g h : Heap} {L : Addr} {m : Str → Option Value} {news : List (Addr × Obj)} {ls : List Lv} (F : Fr g L h m) (N : News g L h news) (hl : ∀ l ∈ ls, l.Has g news) : Rows false h (ls.map lref) (ls.map Lv.ns) := by
  refine ⟨by simp, fun i v ns hv hn => ?_⟩
  rw [List.getElem?_map] at hv hn
  cases e : ls[i]? with
  | none => rw [e] at hv; cases hv
  | some l =>
    rw [e] at hv hn
    have hv' : lref l = v := Option.some.inj hv
    have hn' : l.ns = ns := Option.some.inj hn
    subst hv' hn'
    have hm := List.mem_of_getElem? e
    exact ⟨l.a, l.vs, rfl, (hl l hm).at F N, (hl l hm).1⟩
end Mine
end

section
open PySem PySem.W PyProof.Rows PySem.Calls
set_option Elab.async false
set_option maxRecDepth 100000
set_option linter.unusedVariables false
namespace Mine
local macro_rules | `(tactic| walk_at "mine enter") => `(tactic| (refine' Mine.enterF ?k1 ?k2 ?k3 ?k5 ?kA ?kF ?kK ?k6 ?k7 ?k8 ?k9 ?kB ?_ ?c2 ?c3 ?c4 ?c5; (case kA => exact rfl); (case kF => exact rfl); (case kK => assumption); (case k1 => k_asm); (case k2 => k_asm); (case k3 => k_asm); (case k5 => k_asm); (case k6 => k_is); (case k7 => k_is); (case k8 => ktr_room); (case k9 => exact BindsTo.of_eq rfl); (case c5 => decide); (case kB => exact locs rfl); (case c2 => exact rfl); (case c3 => exact rfl); (case c4 => exact rfl); k_whole))
local macro_rules | `(tactic| units_room) => `(tactic| (have hcL' := cLine_is; simp only [units_in1, units_deeper, Around.mark_units, units_caller]; dsimp only [ktrTop]; omega))

set_option maxHeartbeats 40000000 in
theorem iseof_call {w : World} {s : Shared} {x : Int} {t : Tok} :
   Cl w 55 2 400 [.int x t] s (fun h' r => r = .bool (x == 0)) := by
  unfold Cl
  k_with_none
  k_fill
  intro p loose mean mg mb dp un gd cn cs a ccd cl outer A₀ base h₀ L m Q E B F X T hk hd hu hret
  k_dflt (walk_at "mine enter")
  intro g' L' h' eg FG' F' N' B' X' T'
  try dsimp only
  try k_lift B'
  try k_fold
  k_steps
  (rename Fr g' _ _ _ => lF)
  exact hret _ _ _ (ext_of eg lF) rfl


set_option maxHeartbeats 40000000 in
theorem isnt_call {w : World} {s : Shared} {x : Int} {t : Tok} :
   Cl w 48 2 400 [.int x t] s (fun h' r => r = .bool (decide (256 ≤ x))) := by
  unfold Cl
  k_with_none
  k_fill
  intro p loose mean mg mb dp un gd cn cs a ccd cl outer A₀ base h₀ L m Q E B F X T hk hd hu hret
  k_dflt (walk_at "mine enter")
  intro g' L' h' eg FG' F' N' B' X' T'
  try dsimp only
  try k_lift B'
  try k_fold
  k_steps
  (rename Fr g' _ _ _ => lF)
  exact hret _ _ _ (ext_of eg lF) rfl

end Mine
end

section
open PySem PySem.W PyProof.Rows PySem.Calls
set_option Elab.async false
set_option maxRecDepth 100000
set_option linter.unusedVariables false
namespace Mine
local macro_rules | `(tactic| walk_at "mine enter") => `(tactic| (refine' Mine.enterF ?k1 ?k2 ?k3 ?k5 ?kA ?kF ?kK ?k6 ?k7 ?k8 ?k9 ?kB ?_ ?c2 ?c3 ?c4 ?c5; (case kA => exact rfl); (case kF => exact rfl); (case kK => assumption); (case k1 => k_asm); (case k2 => k_asm); (case k3 => k_asm); (case k5 => k_asm); (case k6 => k_is); (case k7 => k_is); (case k8 => ktr_room); (case k9 => exact BindsTo.of_eq rfl); (case c5 => decide); (case kB => exact locs rfl); (case c2 => exact rfl); (case c3 => exact rfl); (case c4 => exact rfl); k_whole))
local macro_rules | `(tactic| units_room) => `(tactic| (have hcL' := cLine_is; simp only [units_in1, units_deeper, Around.mark_units, units_caller]; dsimp only [ktrTop]; omega))

set_option maxHeartbeats 40000000 in
theorem bound_call {w : World} {s : Shared} {l : Addr} {vs : List Value} {ns : List Int} (hl : s.heap.IsList l vs.toArray) (hi : IntsAre vs ns) (hn : ns.length ≤ 1000) :
   Cl w 215 2 400 [.ref l] s (fun h' r => r = .bool (bnd ns)) := by
  unfold Cl
  k_with_none
  k_fill
  intro p loose mean mg mb dp un gd cn cs a ccd cl outer A₀ base h₀ L m Q E B F X T hk hd hu hret
  k_dflt (walk_at "mine enter")
  intro g' L' h' eg FG' F' N' B' X' T'
  rw [← eg] at hl
  try dsimp only
  try k_lift B'
  try k_fold
  k_steps
  all_goals (
    (rename Fr g' _ _ _ => lF)
    refine hret _ _ _ (ext_of eg (by assumption)) (congrArg Value.bool ?_)
    first
      | exact bnd_A (.inl ⟨by assumption, rfl⟩) (by assumption) (by assumption) (by assumption) (by assumption) (by assumption) (by assumption)
      | exact bnd_A (.inr ⟨by assumption, rfl⟩) (by assumption) (by assumption) (by assumption) (by assumption) (by assumption) (by assumption)
      | exact bnd_B (.inl ⟨by assumption, rfl⟩) (by assumption) (by assumption) (by assumption) (by assumption) (by assumption) (by first | assumption | omega)
      | exact bnd_B (.inr ⟨by assumption, rfl⟩) (by assumption) (by assumption) (by assumption) (by assumption) (by assumption) (by first | assumption | omega)
      | exact bnd_C (.inl ⟨by assumption, rfl⟩) (by assumption) (by assumption) (by assumption) (by assumption) (by first | assumption | omega)
      | exact bnd_C (.inr ⟨by assumption, rfl⟩) (by assumption) (by assumption) (by assumption) (by assumption) (by first | assumption | omega)
      | (exfalso; omega))

end Mine
end

section
open PySem PySem.W PyProof.Rows PySem.Calls
set_option Elab.async false
set_option maxRecDepth 100000
set_option linter.unusedVariables false
namespace Mine
local macro_rules | `(tactic| walk_at "mine enter") => `(tactic| (refine' Mine.enterF ?k1 ?k2 ?k3 ?k5 ?kA ?kF ?kK ?k6 ?k7 ?k8 ?k9 ?kB ?_ ?c2 ?c3 ?c4 ?c5; (case kA => exact rfl); (case kF => exact rfl); (case kK => assumption); (case k1 => k_asm); (case k2 => k_asm); (case k3 => k_asm); (case k5 => k_asm); (case k6 => k_is); (case k7 => k_is); (case k8 => ktr_room); (case k9 => exact BindsTo.of_eq rfl); (case c5 => decide); (case kB => exact locs rfl); (case c2 => exact rfl); (case c3 => exact rfl); (case c4 => exact rfl); k_whole))
local macro_rules | `(tactic| units_room) => `(tactic| (have hcL' := cLine_is; simp only [units_in1, units_deeper, Around.mark_units, units_caller]; dsimp only [ktrTop]; omega))

set_option maxHeartbeats 40000000 in
theorem cp_tup_call {w : World} {s : Shared} {l : Addr} {items : List Value} {nss : List (List Int)} (hl : s.heap.IsList l items.toArray) (hr : Rows true s.heap items nss) (h2 : 2 ≤ nss.length) (hz : nss.length ≤ 10) (hsz : ∀ ns ∈ nss, ns.length ≤ 1000) :
   Cl w 135 3 400 [.ref l] s (fun h' r => SeqInts true h' r (lcp2 (minRow nss) (maxRow nss))) := by
  unfold Cl
  k_with_none
  k_fill
  intro p loose mean mg mb dp un gd cn cs a ccd cl outer A₀ base h₀ L m Q E B F X T hk hd hu hret
  k_dflt (walk_at "mine enter")
  intro g' L' h' eg FG' F' N' B' X' T'
  rw [← eg] at hl
  rw [← eg] at hr
  try dsimp only
  try k_lift B'
  try k_fold
  obtain ⟨hlen, hrow⟩ := hr
  obtain ⟨v0, rest, rfl⟩ : ∃ v r, items = v :: r := by
    cases items with
    | nil => simp at hlen; omega
    | cons v r => exact ⟨v, r, rfl⟩
  obtain ⟨n0, nrest, rfl⟩ : ∃ n r, nss = n :: r := by
    cases nss with
    | nil => simp at hlen
    | cons v r => exact ⟨v, r, rfl⟩
  obtain ⟨a0, vs0, rfl, hs0, hi0⟩ := hrow 0 _ _ rfl rfl
  k_steps
  refine isi_seq (tup := true) (vs := vs0) ?k1 ?k2 ?_
  (case k1 => exact seqBase hs0 (by assumption))
  (case k2 => exact News.get (by assumption) (by news_mem))
  intro _
  k_steps
  refine' row_min (tup := true) (items := .ref a0 :: rest) (nss := n0 :: nrest) (g := g') ?k1 ?k2 hl ⟨hlen, hrow⟩ ?k3 ?k4 ?k5 ?_
  (case k1 => assumption)
  (case k2 => assumption)
  (case k3 => simp)
  (case k4 => rfl)
  (case k5 => units_room)
  rintro _ hA tA ⟨aA, vA, rfl, sA, jA⟩ FA NA
  replace jA := Hid.mk jA
  try k_fold
  k_steps
  refine' row_max (tup := true) (items := .ref a0 :: rest) (nss := n0 :: nrest) (g := g') ?k1 ?k2 hl ⟨hlen, hrow⟩ ?k3 ?k4 ?k5 ?_
  (case k1 => assumption)
  (case k2 => assumption)
  (case k3 => simp)
  (case k4 => rfl)
  (case k5 => units_room)
  rintro _ hB tB ⟨aB, vB, rfl, sB, jB⟩ FB NB
  replace jB := Hid.mk jB
  try k_fold
  k_steps
  refine' call_enum_tup (h₀ := g') (vs := vA) ?k1 ?k2 (IntsAre.areOf jA.out) ?k3 ?k4 ?_
  (case k1 => rfl)
  (case k2 => exact sA)
  (case k3 => assumption)
  (case k4 => assumption)
  intro hC eC FC NC SC
  have iA := jA.out
  have iB := jB.out
  clear jA jB
  refine' pair_pref (SC _ rfl) (fun i => ∀ j, j < i → (minRow (n0 :: nrest)).getD j 0 = (maxRow (n0 :: nrest)).getD j 0) ?h0 ?turn ?done
  (case h0 => intro j hj; omega)
  case turn =>
    intro i a t v h tk own ha hk hP FD ND
    obtain ⟨u, rfl⟩ := ItemKind.int_is hk
    have hm1 := minRow_mem (nss := n0 :: nrest) (by simp)
    have hm2 := maxRow_mem (nss := n0 :: nrest) (by simp)
    have hi0 : i < (minRow (n0 :: nrest)).length := (List.getElem?_eq_some_iff.mp ha).1
    have hi2 : i < (maxRow (n0 :: nrest)).length := place_of _ _ _ (le_maxRow hm1) hP hi0
    have ha' : (minRow (n0 :: nrest)).getD i 0 = a := by rw [List.getD_eq_getElem?_getD, ha]; rfl
    have hz1 := hsz _ hm1
    have hz2 := hsz _ hm2
    try k_fold
    k_steps
    · have hl1 := iA.length
      refine' slice_upto (vs := vA) ?k1 ?k2 ?k3 ?k4 ?_
      (case k1 => assumption)
      (case k2 => assumption)
      (case k3 => exact seqBase (tup := true) sA (by assumption))
      (case k4 => rw [sizeLine_eq]; omega)
      intro dE hE FE NE TE _
      try dsimp only
      k_steps
      refine hret _ _ _ (ext_of eg FE) ⟨dE, _, rfl, TE, ?_⟩
      rw [lcp2_at _ _ i hP hi0 hi2 (by simp_all)]
      exact iA.take i
    · refine ⟨rfl, ⟨_, _, rfl⟩, fun j hj => ?_⟩
      by_cases e : j = i
      · subst e; simp_all
      · exact hP j (by omega)
  case done =>
    intro h' tk vi vc FD ND hP
    try k_fold
    k_steps
    refine hret _ _ _ (ext_of eg (by assumption)) ⟨aA, vA, rfl, seqBase sA (by assumption), ?_⟩
    have hm1 := minRow_mem (nss := n0 :: nrest) (by simp)
    rw [lcp2_all _ _ hP (le_maxRow hm1)]
    exact iA

end Mine
end

section
open PySem PySem.W PyProof.Rows PySem.Calls
set_option Elab.async false
set_option maxRecDepth 100000
set_option linter.unusedVariables false
namespace Mine
local macro_rules | `(tactic| walk_at "mine enter") => `(tactic| (refine' Mine.enterF ?k1 ?k2 ?k3 ?k5 ?kA ?kF ?kK ?k6 ?k7 ?k8 ?k9 ?kB ?_ ?c2 ?c3 ?c4 ?c5; (case kA => exact rfl); (case kF => exact rfl); (case kK => assumption); (case k1 => k_asm); (case k2 => k_asm); (case k3 => k_asm); (case k5 => k_asm); (case k6 => k_is); (case k7 => k_is); (case k8 => ktr_room); (case k9 => exact BindsTo.of_eq rfl); (case c5 => decide); (case kB => exact locs rfl); (case c2 => exact rfl); (case c3 => exact rfl); (case c4 => exact rfl); k_whole))
local macro_rules | `(tactic| units_room) => `(tactic| (have hcL' := cLine_is; simp only [units_in1, units_deeper, Around.mark_units, units_caller]; dsimp only [ktrTop]; omega))

set_option maxHeartbeats 40000000 in
theorem cp_lst_call {w : World} {s : Shared} {l : Addr} {items : List Value} {nss : List (List Int)} (hl : s.heap.IsList l items.toArray) (hr : Rows false s.heap items nss) (h2 : 2 ≤ nss.length) (hz : nss.length ≤ 10) (hsz : ∀ ns ∈ nss, ns.length ≤ 1000) :
   Cl w 135 3 400 [.ref l] s (fun h' r => SeqInts false h' r (lcp2 (minRow nss) (maxRow nss))) := by
  unfold Cl
  k_with_none
  k_fill
  intro p loose mean mg mb dp un gd cn cs a ccd cl outer A₀ base h₀ L m Q E B F X T hk hd hu hret
  k_dflt (walk_at "mine enter")
  intro g' L' h' eg FG' F' N' B' X' T'
  rw [← eg] at hl
  rw [← eg] at hr
  try dsimp only
  try k_lift B'
  try k_fold
  obtain ⟨hlen, hrow⟩ := hr
  obtain ⟨v0, rest, rfl⟩ : ∃ v r, items = v :: r := by
    cases items with
    | nil => simp at hlen; omega
    | cons v r => exact ⟨v, r, rfl⟩
  obtain ⟨n0, nrest, rfl⟩ : ∃ n r, nss = n :: r := by
    cases nss with
    | nil => simp at hlen
    | cons v r => exact ⟨v, r, rfl⟩
  obtain ⟨a0, vs0, rfl, hs0, hi0⟩ := hrow 0 _ _ rfl rfl
  k_steps
  refine isi_seq (tup := false) (vs := vs0) ?k1 ?k2 ?_
  (case k1 => exact seqBase hs0 (by assumption))
  (case k2 => exact News.get (by assumption) (by news_mem))
  intro _
  k_steps
  refine' row_min (tup := false) (items := .ref a0 :: rest) (nss := n0 :: nrest) (g := g') ?k1 ?k2 hl ⟨hlen, hrow⟩ ?k3 ?k4 ?k5 ?_
  (case k1 => assumption)
  (case k2 => assumption)
  (case k3 => simp)
  (case k4 => rfl)
  (case k5 => units_room)
  rintro _ hA tA ⟨aA, vA, rfl, sA, jA⟩ FA NA
  replace jA := Hid.mk jA
  try k_fold
  k_steps
  refine' row_max (tup := false) (items := .ref a0 :: rest) (nss := n0 :: nrest) (g := g') ?k1 ?k2 hl ⟨hlen, hrow⟩ ?k3 ?k4 ?k5 ?_
  (case k1 => assumption)
  (case k2 => assumption)
  (case k3 => simp)
  (case k4 => rfl)
  (case k5 => units_room)
  rintro _ hB tB ⟨aB, vB, rfl, sB, jB⟩ FB NB
  replace jB := Hid.mk jB
  try k_fold
  k_steps
  refine' call_enum_list (h₀ := g') (vs := vA) ?k1 ?k2 (IntsAre.areOf jA.out) ?k3 ?k4 ?_
  (case k1 => rfl)
  (case k2 => exact sA)
  (case k3 => assumption)
  (case k4 => assumption)
  intro hC eC FC NC SC
  have iA := jA.out
  have iB := jB.out
  clear jA jB
  refine' pair_pref (SC _ rfl) (fun i => ∀ j, j < i → (minRow (n0 :: nrest)).getD j 0 = (maxRow (n0 :: nrest)).getD j 0) ?h0 ?turn ?done
  (case h0 => intro j hj; omega)
  case turn =>
    intro i a t v h tk own ha hk hP FD ND
    obtain ⟨u, rfl⟩ := ItemKind.int_is hk
    have hm1 := minRow_mem (nss := n0 :: nrest) (by simp)
    have hm2 := maxRow_mem (nss := n0 :: nrest) (by simp)
    have hi0 : i < (minRow (n0 :: nrest)).length := (List.getElem?_eq_some_iff.mp ha).1
    have hi2 : i < (maxRow (n0 :: nrest)).length := place_of _ _ _ (le_maxRow hm1) hP hi0
    have ha' : (minRow (n0 :: nrest)).getD i 0 = a := by rw [List.getD_eq_getElem?_getD, ha]; rfl
    have hz1 := hsz _ hm1
    have hz2 := hsz _ hm2
    try k_fold
    k_steps
    · (rename News g' _ _ _ => lN)
      (rename Fr g' _ _ _ => lF)
      (rename IntsAre _ (List.take _ _) => lI)
      refine hret _ _ _ (ext_of eg lF) ⟨_, _, rfl, ⟨_, (lN _ (.head _)).1, rfl, _, rfl⟩, ?_⟩
      rw [lcp2_at _ _ i hP hi0 hi2 (by simp_all)]
      simpa using lI
    · refine ⟨rfl, ⟨_, _, rfl⟩, fun j hj => ?_⟩
      by_cases e : j = i
      · subst e; simp_all
      · exact hP j (by omega)
  case done =>
    intro h' tk vi vc FD ND hP
    try k_fold
    k_steps
    refine hret _ _ _ (ext_of eg (by assumption)) ⟨aA, vA, rfl, seqBase sA (by assumption), ?_⟩
    have hm1 := minRow_mem (nss := n0 :: nrest) (by simp)
    rw [lcp2_all _ _ hP (le_maxRow hm1)]
    exact iA

end Mine
end

section
open PySem PySem.W PyProof.Rows PySem.Calls
set_option Elab.async false
set_option maxRecDepth 100000
set_option linter.unusedVariables false
namespace Mine
abbrev Fnd := Option (Addr × Obj × Addr × Obj × Nat)
def valF : Fnd → Value
  | none => .none
  | some (d, _) => .ref d
def ledF : Fnd → List (Addr × Obj)
  | none => []
  | some (d, o, tp, ot, _) => [(d, o), (tp, ot)]
def FoundAt (f : Fnd) (x : Str) (ns : List Int) : Prop := match f with
  | none => Plain ns
  | some (_, o, tp, ot, k) => IsMO o tp ot x k ∧ ∃ pre p post, ns = pre ++ p :: post ∧ (p = 2 ∨ p = 3) ∧ Plain pre ∧ k = (greatL pre).length
structure GrSt where
  great : Str
  tg : Tok
  text : Str
  tt : Tok
  fnd : Fnd
  place : Int
  rest : List Int
def GrSt.ok (ns : List Int) (c : GrSt) : Prop := (∃ pre, ns = pre ++ c.rest ∧ c.great.cps.toList = greatL pre) ∧ c.text.cps.toList = laidL c.place c.rest ∧ FoundAt c.fnd c.text c.rest
section
variable {prog : Program} {w : World} {A : Around} {E : Value → Shared → Prop} {s : Shared} {h₀ : Heap} {L : Addr} {m : Str → Option Value} {news : List (Addr × Obj)}
theorem search_laid {p : Addr} {x : Str} {t : Tok} {ns : List Int} {q : Int} {Q : Value → Shared → Prop} (hp : IsPat s.heap p codeE 1) (hl : ns.length ≤ 1000) (hx : x.cps.toList = laidL q ns)
    (F : Fr h₀ L s.heap m) (N : News h₀ L s.heap news)
    (h : ∀ f h', Fr h₀ L h' m → News h₀ L h' (ledF f ++ news) → FoundAt f x ns → Q (valF f) { s with heap := h' }) :
    wpAny (model prog w) A (call (.builtin "re.Pattern.search") [.ref p, .str x t]) Q E s := by
  have hsz : x.cps.size ≤ 1000000 := by
    have h1 := laidL_len ns q
    rw [← hx, Array.length_toList] at h1
    omega
  refine search_E hp hsz ?_
  rcases plain_or ns with hP | ⟨pre, p', post, e, hp', hpre⟩
  · exact .inl ⟨(no_pct hP hx).1, h none s.heap F N hP⟩
  · subst e
    obtain ⟨c1, c2, hE, _⟩ := esc_at hp' hpre hx
    obtain ⟨f1, f2, f3, f4, f5, _⟩ := hE.facts
    refine .inr ⟨_, f1, f2, f3, f4, f5, fun o1 o2 hm => ?_⟩
    exact h (some ((s.heap.push o1).objs.size, o2, s.heap.objs.size, o1, (greatL pre).length)) _ ((F.push o1).push o2)
      (News.push (F.push o1) (News.push F N o1 hm.2.1) o2 hm.1) ⟨hm, pre, p', post, rfl, hp', hpre, rfl⟩
theorem span_at {d : Addr} {x : Str} {q : Nat} {u : Tok} {Q : Value → Shared → Prop} (hm : IsMatch s.heap d x q) (F : Fr h₀ L s.heap m) (N : News h₀ L s.heap news)
    (h : ∀ e h' t1 t2 tk, Fr h₀ L h' m → News h₀ L h' ((e, { cls := .type "tuple", data := .seq [Value.int (q : Nat) t1, Value.int ((q + 3 : Nat) : Int) t2].toArray }) :: news) → Q (.ref e) { s with heap := h', toks := tk }) :
    wpAny (model prog w) A (call (.builtin "re.Match.span") [.ref d, .int 0 u]) Q E s :=
  match_span hm fun t1 t2 tk => h _ _ t1 t2 tk (F.push _) (News.push F N _)
end
end Mine
end

section
open PySem PySem.W PyProof.Rows PySem.Calls
set_option Elab.async false
set_option maxRecDepth 100000
set_option linter.unusedVariables false
namespace Mine
local macro_rules | `(tactic| walk_at "mine enter") => `(tactic| (refine' Mine.enterF ?k1 ?k2 ?k3 ?k5 ?kA ?kF ?kK ?k6 ?k7 ?k8 ?k9 ?kB ?_ ?c2 ?c3 ?c4 ?c5; (case kA => exact rfl); (case kF => exact rfl); (case kK => assumption); (case k1 => k_asm); (case k2 => k_asm); (case k3 => k_asm); (case k5 => k_asm); (case k6 => k_is); (case k7 => k_is); (case k8 => ktr_room); (case k9 => exact BindsTo.of_eq rfl); (case c5 => decide); (case kB => exact locs rfl); (case c2 => exact rfl); (case c3 => exact rfl); (case c4 => exact rfl); k_whole))
local macro_rules | `(tactic| units_room) => `(tactic| (have hcL' := cLine_is; simp only [units_in1, units_deeper, Around.mark_units, units_caller]; dsimp only [ktrTop]; omega))

set_option maxHeartbeats 40000000 in
theorem great_call {w : World} {s : Shared} {x : Str} {t : Tok} {ns : List Int} (hb : ∀ n ∈ ns, 0 ≤ n ∧ n < 6) (hn : ns.length ≤ 1000) (hx : x.cps.toList = laidL 0 ns) :
   Cl w 194 5 500 [.str x t] s (fun h' r => ∃ y t', r = .str y t' ∧ y.cps.toList = greatL ns) := by
  unfold Cl
  k_with_none
  k_fill
  intro p loose mean mg mb dp un gd cn cs a ccd cl outer A₀ base h₀ L m Q E B F X T hk hd hu hret
  k_dflt (walk_at "mine enter")
  intro g' L' h' eg FG' F' N' B' X' T'
  try dsimp only
  try k_lift B'
  try k_fold
  k_with "exec While Compare cons nil" => (apply mineStop)
  k_steps
  refine pat_search (patE (by assumption) (by assumption)) ?_
  k_steps
  (rename Fr g' _ _ _ => lF)
  (rename News g' _ _ _ => lN)
  refine search_laid (patE (by assumption) lF) hn hx lF lN fun f h2 lF2 lN2 hf => ?_
  clear lF lN
  k_steps
  unfold MineStop
  (rename Fr g' _ _ _ => lF')
  (rename News g' _ _ _ => lN')
  with_unfolding_all refine' ksw_while (σ := GrSt) (fun c => ledF c.fnd) (fun c => [(Str.ofString "great", .str c.great c.tg), (Str.ofString "text", .str c.text c.tt), (Str.ofString "found", valF c.fnd)]) (fun c => GrSt.ok ns c) [Str.ofString "begin", Str.ofString "end"] (fun _ => True) (fun c => c.rest.length) ⟨_, _, x, t, f, 0, ns⟩ lF' ?kn ?kf ?kk trivial ?_
  case kn => simpa using lN'
  case kk => kst_all
  case kf => exact ⟨⟨[], rfl, rfl⟩, hx, hf⟩
  clear lF' lN'
  intro c kU kH kTk kFacts kP kFr kNews
  obtain ⟨great, tg, text, tt, fnd, place, rest⟩ := c
  try dsimp only at kFacts
  obtain ⟨⟨pre, hpre, hgr⟩, htx, hfd⟩ := kFacts
  try dsimp only at hpre hgr htx hfd
  have hgl : great.length ≤ 10000 := great_len hn hpre hgr
  have htl : text.length ≤ 10000 := laid_len' hn hpre htx
  rcases fnd with _ | ⟨d, o, tp, ot, k⟩
  · dsimp only [valF, ledF] at kFr kNews ⊢
    ((have kMark : KstMark := kstMark); (try dsimp only [kstB] at kFr); (try dsimp only at kNews); (try simp only [List.nil_append, List.cons_append, List.append_nil] at kNews); (try k_fold))
    k_steps
    (rename Fr g' _ _ _ => lF)
    refine hret _ _ _ (ext_of eg lF) ⟨_, _, rfl, ?_⟩
    have h1 := (no_pct hfd htx).2
    rw [hpre, great_append, ← hgr, ← h1]
    show (great.cps ++ text.cps).toList = _
    simp
  · dsimp only [valF, ledF] at kFr kNews ⊢
    ((have kMark : KstMark := kstMark); (try dsimp only [kstB] at kFr); (try dsimp only at kNews); (try simp only [List.nil_append, List.cons_append, List.append_nil] at kNews); (try k_fold))
    k_steps
    obtain ⟨hmo, pre', p', post, erest, hp', hpp, ek⟩ := hfd
    have hM : ∀ {h' : Heap}, News g' L' h' [(d, o), (tp, ot)] → IsMatch h' d text k := fun N => isMatch_of hmo (N (d, o) (by simp)).1 (N (tp, ot) (by simp)).1
    refine match_method slot_span type_span (hM (by assumption)) ?_
    k_steps
    (rename Fr g' _ _ _ => lF)
    (rename News g' _ _ _ => lN)
    subst erest
    obtain ⟨c1, c2, hE, hsg⟩ := esc_at hp' hpp htx
    obtain ⟨_, _, _, _, _, hex⟩ := hE.facts
    rw [← ek] at hE hex
    refine span_at (hM lN) lF lN fun e hh t1 t2 tk lF2 lN2 => ?_
    clear lF lN
    k_steps
    (rename Fr g' _ _ _ => lF)
    (rename News g' _ _ _ => lN)
    refine' Mine.use B' lF X' lN T' rfl (upper_call (isMatch_of hmo (lN (d, o) (by simp)).1 (lN (tp, ot) (by simp)).1) ?k1 hE.h1 hE.h2 hex) ?k2 ?k3 ?_
    case k1 => exact Nat.le_trans htl (by decide)
    case k2 => dsimp only [ktrTop]; omega
    case k3 => dsimp only [ktrTop]; omega
    rintro r h3 tk3 - ⟨t3, rfl⟩ lF3 lN3
    clear lF lN
    obtain ⟨y, ey⟩ : ∃ y : Str, y = ⟨#[37, upc c1, upc c2]⟩ := ⟨_, rfl⟩
    rw [← ey]
    have hy : y.length ≤ 3 := by rw [ey]; exact Nat.le_of_ble_eq_true rfl
    dsimp only
    k_steps
    (rename Fr g' _ _ _ => lF)
    refine pat_search (patE X' lF) ?_
    k_steps
    (rename Fr g' _ _ _ => lF)
    (rename News g' _ _ _ => lN)
    have hl2 : post.length ≤ 1000 := by subst hpre; simp at hn; omega
    refine search_laid (patE X' lF) hl2 (slice_from hE) lF lN fun f2 h5 lF2 lN2 hf2 => ?_
    clear lF lN
    k_steps
    (rename Fr g' _ _ _ => lF)
    (rename News g' _ _ _ => lN)
    refine' ksw_end (σ := GrSt) ⟨_, _, _, _, f2, place + (pre'.length : Int) + 1, post⟩ lF lN ?k0 ?k1 ?k2 ?k3 trivial ?k4
    case k0 => exact fun p hp => List.mem_append_left _ hp
    case k2 => kst_all
    case k3 => ksw_same
    case k4 => simp; omega
    case k1 =>
      refine ⟨⟨pre ++ (pre' ++ [p']), by rw [hpre]; simp, ?_⟩, slice_from hE, hf2⟩
      have hA := slice_to hE
      have e1 : greatL (pre' ++ [p']) = greatL pre' ++ sgnL p' true := by rw [great_append]; simp [greatL]
      rw [great_append, ← hgr, e1, hsg, ← hA]
      show (great.cps ++ (Txt.slice text none (some (k : Int))).cps ++ y.cps).toList = _
      rw [ey]
      simp

end Mine
end

section
open PySem PySem.W PyProof.Rows PySem.Calls
set_option Elab.async false
set_option maxRecDepth 100000
set_option linter.unusedVariables false
namespace Mine
local macro_rules | `(tactic| walk_at "mine enter") => `(tactic| (refine' Mine.enterF ?k1 ?k2 ?k3 ?k5 ?kA ?kF ?kK ?k6 ?k7 ?k8 ?k9 ?kB ?_ ?c2 ?c3 ?c4 ?c5; (case kA => exact rfl); (case kF => exact rfl); (case kK => assumption); (case k1 => k_asm); (case k2 => k_asm); (case k3 => k_asm); (case k5 => k_asm); (case k6 => k_is); (case k7 => k_is); (case k8 => ktr_room); (case k9 => exact BindsTo.of_eq rfl); (case c5 => decide); (case kB => exact locs rfl); (case c2 => exact rfl); (case c3 => exact rfl); (case c4 => exact rfl); k_whole))
local macro_rules | `(tactic| units_room) => `(tactic| (have hcL' := cLine_is; simp only [units_in1, units_deeper, Around.mark_units, units_caller]; dsimp only [ktrTop]; omega))

set_option maxHeartbeats 40000000 in
theorem read_call {w : World} {s : Shared} {x : Str} {t : Tok} {ns : List Int} (hb : ∀ n ∈ ns, 0 ≤ n ∧ n < 6) (hn : ns.length ≤ 1000) (hx : x.cps.toList = greatL ns) :
   Cl w 201 5 500 [.str x t] s (fun h' r => ∃ d vs, r = .ref d ∧ New s.heap h' d (tupOf vs) ∧ IntsAre vs (ns.map symI)) := by
  unfold Cl
  k_with_none
  k_fill
  intro p loose mean mg mb dp un gd cn cs a ccd cl outer A₀ base h₀ L m Q E B F X T hk hd hu hret
  k_dflt (walk_at "mine enter")
  intro g' L' h' eg FG' F' N' B' X' T'
  try dsimp only
  try k_lift B'
  try k_fold
  k_with "exec While Compare cons nil" => (apply mineStop)
  have hxl : x.length ≤ 10000 := great_len (a := ns) (b := []) hn (by simp) hx
  k_steps
  unfold MineStop
  (rename Fr g' _ _ _ => lF')
  (rename News g' _ _ _ => lN')
  with_unfolding_all refine' ksw_while (σ := RdSt) (fun c => [(?lS, W.listOf c.vs.toArray c.cap)]) (fun c => [(Str.ofString "k", .int c.k c.tk)]) (fun c => RdSt.ok ns c) [Str.ofString "sign"] (fun _ => True) (fun c => c.rest.length) ⟨0, _, [], 0, [], ns⟩ lF' ?kn ?kf ?kk trivial ?_
  case kn => exact lN'
  case kk => kst_all
  case kf => exact ⟨.nil, rfl, rfl⟩
  clear lF' lN'
  intro c kU kH kTk kFacts kP kFr kNews
  obtain ⟨k, tkk, vs, cap, pre, rest⟩ := c
  try dsimp only at kFacts
  obtain ⟨hvs, hpre, hk⟩ := kFacts
  try dsimp only at hpre hk hvs
  have hk2 : k + (greatL rest).length = x.length := by rw [hk]; exact great_cut hpre hx
  have hk0 : 0 ≤ k := by omega
  ((have kMark : KstMark := kstMark); (try dsimp only [kstB] at kFr); (try dsimp only at kNews); (try simp only [List.nil_append, List.cons_append, List.append_nil] at kNews); (try k_fold))
  k_with "subscriptTail Name Name str int" => ((refine item_lit hI0 (by omega) (by omega) hxl ?_); intro _ _)
  k_with "subscriptTail Name BinOp str int" => (first | ((refine item_lit hI1 (by omega) (by omega) hxl ?_); intro _ _) | ((refine item_lit hI2 (by omega) (by omega) hxl ?_); intro _ _))
  k_with "call builtin:str.index" => (first | ((refine index_lit (z := 2) rfl (by decide +kernel) (by decide) ?_); intro _ _) | ((refine index_lit (z := 13) rfl (by decide +kernel) (by decide) ?_); intro _ _) | ((refine index_lit (z := 14) rfl (by decide +kernel) (by decide) ?_); intro _ _) | ((refine index_lit (z := 11) rfl (by decide +kernel) (by decide) ?_); intro _ _))
  k_with "call builtin:chr" => (first | ((refine chr_lit (c := 45) (by decide) (by decide) ?_); intro _ _) | ((refine chr_lit (c := 235) (by decide) (by decide) ?_); intro _ _))
  have hvl : vs.length ≤ 1000 := len_of hvs hpre hn
  have hvl' : vs.toArray.size ≤ sizeLine := by rw [List.size_toArray, sizeLine_eq]; omega
  rcases rest with _ | ⟨p, rest⟩
  · have hk3 : k = x.length := by simpa [greatL] using hk2
    k_steps
    (rename Fr g' _ _ _ => lF)
    (rename News g' _ _ _ => lN)
    have hp2 : pre = ns := by rw [hpre]; simp
    subst hp2
    exact hret _ _ _ (ext_of eg lF) ⟨_, _, rfl, new_of eg lN (.head _), hvs⟩
  · have hp := hb p (by rw [hpre]; simp)
    rcases six hp with e | e | e | e | e | e
    all_goals subst e
    · obtain ⟨hI0, hk3, hk4⟩ := read_one (c := 46) hpre hx hk rfl
      (k_steps; (rename Fr g' _ _ _ => lF); (rename News g' _ _ _ => lN); (try simp only [List.push_toArray] at lN); (refine' ksw_end (σ := RdSt) ⟨_, _, _, cap + 1, pre ++ [0], rest⟩ lF lN ?k0 ?k1 ?k2 ?k3 trivial ?k4); (case k0 => exact fun p hp => by rcases List.mem_singleton.mp hp with rfl; exact .head _); (case k2 => kst_all); (case k3 => ksw_same); (case k4 => (simp only [List.length_cons]; omega)); (case k1 => exact ⟨ok_next hvs (by decide +kernel), by rw [hpre]; simp, by first | exact hk4 | (dsimp only; omega)⟩))
    · obtain ⟨hI0, hk3, hk4⟩ := read_one (c := 48) hpre hx hk rfl
      (k_steps; (rename Fr g' _ _ _ => lF); (rename News g' _ _ _ => lN); (try simp only [List.push_toArray] at lN); (refine' ksw_end (σ := RdSt) ⟨_, _, _, cap + 1, pre ++ [1], rest⟩ lF lN ?k0 ?k1 ?k2 ?k3 trivial ?k4); (case k0 => exact fun p hp => by rcases List.mem_singleton.mp hp with rfl; exact .head _); (case k2 => kst_all); (case k3 => ksw_same); (case k4 => (simp only [List.length_cons]; omega)); (case k1 => exact ⟨ok_next hvs (by decide +kernel), by rw [hpre]; simp, by first | exact hk4 | (dsimp only; omega)⟩))
    · obtain ⟨hI0, hI1, hI2, hk3, hk4⟩ := read_three (c1 := 50) (c2 := 68) hpre hx hk rfl
      (k_steps; (rename Fr g' _ _ _ => lF); (rename News g' _ _ _ => lN); (try simp only [List.push_toArray] at lN); (refine' ksw_end (σ := RdSt) ⟨_, _, _, cap + 1, pre ++ [2], rest⟩ lF lN ?k0 ?k1 ?k2 ?k3 trivial ?k4); (case k0 => exact fun p hp => by rcases List.mem_singleton.mp hp with rfl; exact .head _); (case k2 => kst_all); (case k3 => ksw_same); (case k4 => (simp only [List.length_cons]; omega)); (case k1 => exact ⟨ok_next hvs (by decide +kernel), by rw [hpre]; simp, by first | exact hk4 | (dsimp only; omega)⟩))
    · obtain ⟨hI0, hI1, hI2, hk3, hk4⟩ := read_three (c1 := 69) (c2 := 66) hpre hx hk rfl
      (k_steps; (rename Fr g' _ _ _ => lF); (rename News g' _ _ _ => lN); (try simp only [List.push_toArray] at lN); (refine' ksw_end (σ := RdSt) ⟨_, _, _, cap + 1, pre ++ [3], rest⟩ lF lN ?k0 ?k1 ?k2 ?k3 trivial ?k4); (case k0 => exact fun p hp => by rcases List.mem_singleton.mp hp with rfl; exact .head _); (case k2 => kst_all); (case k3 => ksw_same); (case k4 => (simp only [List.length_cons]; omega)); (case k1 => exact ⟨ok_next hvs (by decide +kernel), by rw [hpre]; simp, by first | exact hk4 | (dsimp only; omega)⟩))
    · obtain ⟨hI0, hk3, hk4⟩ := read_one (c := 10) hpre hx hk rfl
      (k_steps; (rename Fr g' _ _ _ => lF); (rename News g' _ _ _ => lN); (try simp only [List.push_toArray] at lN); (refine' ksw_end (σ := RdSt) ⟨_, _, _, cap + 1, pre ++ [4], rest⟩ lF lN ?k0 ?k1 ?k2 ?k3 trivial ?k4); (case k0 => exact fun p hp => by rcases List.mem_singleton.mp hp with rfl; exact .head _); (case k2 => kst_all); (case k3 => ksw_same); (case k4 => (simp only [List.length_cons]; omega)); (case k1 => exact ⟨ok_next hvs (by decide +kernel), by rw [hpre]; simp, by first | exact hk4 | (dsimp only; omega)⟩))
    · obtain ⟨hI0, hk3, hk4⟩ := read_one (c := 1635) hpre hx hk rfl
      (k_steps; (rename Fr g' _ _ _ => lF); (rename News g' _ _ _ => lN); (try simp only [List.push_toArray] at lN); (refine' ksw_end (σ := RdSt) ⟨_, _, _, cap + 1, pre ++ [5], rest⟩ lF lN ?k0 ?k1 ?k2 ?k3 trivial ?k4); (case k0 => exact fun p hp => by rcases List.mem_singleton.mp hp with rfl; exact .head _); (case k2 => kst_all); (case k3 => ksw_same); (case k4 => (simp only [List.length_cons]; omega)); (case k1 => exact ⟨ok_next hvs (by decide +kernel), by rw [hpre]; simp, by first | exact hk4 | (dsimp only; omega)⟩))

end Mine
end

section
open PySem PySem.W PyProof.Rows PySem.Calls
set_option Elab.async false
set_option maxRecDepth 100000
set_option linter.unusedVariables false
namespace Mine
local macro_rules | `(tactic| walk_at "mine enter") => `(tactic| (refine' Mine.enterF ?k1 ?k2 ?k3 ?k5 ?kA ?kF ?kK ?k6 ?k7 ?k8 ?k9 ?kB ?_ ?c2 ?c3 ?c4 ?c5; (case kA => exact rfl); (case kF => exact rfl); (case kK => assumption); (case k1 => k_asm); (case k2 => k_asm); (case k3 => k_asm); (case k5 => k_asm); (case k6 => k_is); (case k7 => k_is); (case k8 => ktr_room); (case k9 => exact BindsTo.of_eq rfl); (case c5 => decide); (case kB => exact locs rfl); (case c2 => exact rfl); (case c3 => exact rfl); (case c4 => exact rfl); k_whole))
local macro_rules | `(tactic| units_room) => `(tactic| (have hcL' := cLine_is; simp only [units_in1, units_deeper, Around.mark_units, units_caller]; dsimp only [ktrTop]; omega))

set_option maxHeartbeats 40000000 in
theorem euclid_call {w : World} {s : Shared} {a1 a2 : Addr} {vs us : List Value} {ns ms : List Int} (ht : IsTup s.heap a1 vs.toArray) (hi : IntsAre vs ns) (hl2 : IsTup s.heap a2 us.toArray) (hj : IntsAre us ms) (h1 : ns ≠ []) (h2 : ms ≠ []) (h3 : ns.length ≤ 1000) (h4 : ms.length ≤ 1000) :
   Cl w 208 2 400 [.ref a1, .ref a2] s (fun h' r => ∃ d vs, r = .ref d ∧ IsTup h' d vs.toArray ∧ IntsAre vs (lcp2 (ns ++ ms) (ms ++ ns))) := by
  unfold Cl
  k_with_none
  k_fill
  intro p loose mean mg mb dp un gd cn cs a ccd cl outer A₀ base h₀ L m Q E B F X T hk hd hu hret
  k_dflt (walk_at "mine enter")
  intro g' L' h' eg FG' F' N' B' X' T'
  rw [← eg] at ht
  rw [← eg] at hl2
  try dsimp only
  try k_lift B'
  try k_fold
  k_with "binaryOp Add ref ref" => (apply mineStop)
  k_with "exec While Compare cons nil" => (apply mineStop)
  k_with "compareOp NotEq ref ref" => (apply mineStop)
  k_with "compareOp Eq ref ref" => (apply mineStop)
  k_with "subscriptTail Name Slice ref ref" => (apply mineStop)
  k_with "subscriptTail Name Name ref int" => (apply mineStop)
  k_with "call builtin:len" => (apply mineStop)
  have hone : Tv.Has g' [] ⟨a1, vs, ns⟩ := .of_base hi ht
  have hoth : Tv.Has g' [] ⟨a2, us, ms⟩ := .of_base hj hl2
  k_steps
  unfold MineStop
  (rename Fr g' _ _ _ => lF)
  (rename News g' _ _ _ => lN)
  refine tv_add (x := ⟨a1, vs, ns⟩) (y := ⟨a2, us, ms⟩) lF lN hone hoth (by dsimp only; omega) fun both hh nw hbo eb hsub lF2 lN2 => ?_
  replace hone := hone.mono hsub
  replace hoth := hoth.mono hsub
  clear lF lN hsub
  dsimp only at eb
  k_steps
  unfold MineStop
  ((rename Fr g' _ _ _ => lF); (rename News g' _ _ _ => lN))
  with_unfolding_all refine' ksw_while (σ := EuSt) (fun c => c.led) (fun c => [(Str.ofString "one", .ref c.one.a), (Str.ofString "other", .ref c.oth.a), (Str.ofString "shared", .ref c.sh.a)]) (fun c => EuSt.ok g' both ns ms c) [Str.ofString "k"] (fun _ => True) (fun c => c.one.ns.length + c.oth.ns.length) ⟨⟨_, vs, ns⟩, ⟨_, us, ms⟩, ⟨_, [], []⟩, _⟩ lF ?kn ?kf ?kk trivial ?_
  case kn => exact lN
  case kk => kst_all
  case kf => exact ⟨hone.mono fun _ q => .tail _ (.tail _ q), hoth.mono fun _ q => .tail _ (.tail _ q), .of_new .nil (.tail _ (.head _)), hbo.mono fun _ q => .tail _ (.tail _ q), rfl, rfl, h1, h2⟩
  clear lF lN hone hoth hbo
  intro c kU kH kTk kFacts kP kFr kNews
  obtain ⟨one, oth, sh, led⟩ := c
  obtain ⟨hone, hoth, hsh, hbo, e1, e2, n1, n2⟩ := kFacts
  dsimp only at hone hoth hsh hbo e1 e2 n1 n2
  have hlen := congrArg List.length e1
  simp only [List.length_append] at hlen
  have l1 := List.length_pos_iff.mpr n1
  have l2 := List.length_pos_iff.mpr n2
  ((have kMark : KstMark := kstMark); (try dsimp only [kstB] at kFr); (try dsimp only at kNews); (try simp only [List.nil_append, List.cons_append, List.append_nil] at kNews); (try k_fold))
  k_steps
  unfold MineStop
  ((rename Fr g' _ _ _ => lF); (rename News g' _ _ _ => lN))
  refine tv_ne lF lN hone hoth (by units_room) ?_
  by_cases hEq : one.ns = oth.ns
  · simp only [hEq, decide_true, Bool.not_true]
    k_steps
    ((rename Fr g' _ _ _ => lF); (rename News g' _ _ _ => lN))
    exact hret _ _ _ (ext_of eg lF) ⟨_, _, rfl, hbo.at lF lN, euc_same e1 e2 hEq eb ▸ hbo.1⟩
  · simp only [hEq, decide_false, Bool.not_false]
    k_steps
    unfold MineStop
    ((rename Fr g' _ _ _ => lF); (rename News g' _ _ _ => lN))
    refine tv_len lF lN hone (by omega) fun t9 k9 => ?_
    k_steps
    unfold MineStop
    ((rename Fr g' _ _ _ => lF); (rename News g' _ _ _ => lN))
    refine tv_upto (s := ⟨_, _, _, _, _⟩) lF lN hoth (by omega) fun z1 h9 nw1 hz1 ez1 hsub lF2 lN2 => ?_
    ((replace hone := hone.mono hsub); (replace hoth := hoth.mono hsub); (replace hsh := hsh.mono hsub); (replace hbo := hbo.mono hsub); clear lF lN)
    k_steps
    unfold MineStop
    ((rename Fr g' _ _ _ => lF); (rename News g' _ _ _ => lN))
    refine tv_eq lF lN hz1 hone (by units_room) ?_
    by_cases hP : z1.ns = one.ns
    · simp only [hP, decide_true]
      have hl5 : one.ns.length ≤ oth.ns.length := by
        have := congrArg List.length ez1
        rw [hP, List.length_take] at this
        omega
      k_steps
      unfold MineStop
      ((rename Fr g' _ _ _ => lF); (rename News g' _ _ _ => lN))
      refine tv_add lF lN hsh hone (by omega) fun z2 h9 nw2 hz2 ez2 hsub lF2 lN2 => ?_
      ((replace hone := hone.mono hsub); (replace hoth := hoth.mono hsub); (replace hsh := hsh.mono hsub); (replace hbo := hbo.mono hsub); clear lF lN)
      k_steps
      unfold MineStop
      ((rename Fr g' _ _ _ => lF); (rename News g' _ _ _ => lN))
      refine tv_len lF lN hone (by omega) fun t8 k8 => ?_
      k_steps
      unfold MineStop
      ((rename Fr g' _ _ _ => lF); (rename News g' _ _ _ => lN))
      refine tv_from (s := ⟨_, _, _, _, _⟩) lF lN hoth (by omega) l1 hl5 fun z3 h9 nw3 hz3 ez3 hsub lF2 lN2 => ?_
      ((replace hone := hone.mono hsub); (replace hoth := hoth.mono hsub); (replace hsh := hsh.mono hsub); (replace hbo := hbo.mono hsub); clear lF lN)
      replace hz2 := hz2.mono hsub
      clear hsub
      k_steps
      ((rename Fr g' _ _ _ => lF); (rename News g' _ _ _ => lN))
      have ec := euc_cut ez1 hP ez3
      have tl : ∀ (b : Addr × Obj), ∀ p ∈ nw3, p ∈ b :: nw3 := fun _ _ q => .tail _ q
      refine' ksw_end (σ := EuSt) ⟨one, z3, z2, _⟩ lF lN (fun _ q => q) ?q1 ?q2 ?q3 trivial ?q4
      case q2 => kst_all
      case q3 => ksw_same
      case q4 => dsimp only; rw [ez3, List.length_drop]; omega
      case q1 =>
        refine ⟨hone.mono (tl _), hz3.mono (tl _), hz2.mono (tl _), hbo.mono (tl _), ?_, ?_, n1, ?_⟩
        · dsimp only; rw [e1, ez2, ec]; simp
        · dsimp only; rw [e2, ez2, ec]; simp
        · dsimp only; rintro e; rw [e] at ec; simp at ec; exact hEq ec.symm
    · simp only [hP, decide_false]
      k_steps
      unfold MineStop
      ((rename Fr g' _ _ _ => lF); (rename News g' _ _ _ => lN))
      refine tv_len lF lN hoth (by omega) fun t9 k9 => ?_
      k_steps
      unfold MineStop
      ((rename Fr g' _ _ _ => lF); (rename News g' _ _ _ => lN))
      refine tv_upto (s := ⟨_, _, _, _, _⟩) lF lN hone (by omega) fun z4 h9 nw4 hz4 ez4 hsub lF2 lN2 => ?_
      ((replace hone := hone.mono hsub); (replace hoth := hoth.mono hsub); (replace hsh := hsh.mono hsub); (replace hbo := hbo.mono hsub); clear lF lN)
      k_steps
      unfold MineStop
      ((rename Fr g' _ _ _ => lF); (rename News g' _ _ _ => lN))
      refine tv_eq lF lN hz4 hoth (by units_room) ?_
      by_cases hP2 : z4.ns = oth.ns
      · simp only [hP2, decide_true]
        have hl5 : oth.ns.length ≤ one.ns.length := by
          have := congrArg List.length ez4
          rw [hP2, List.length_take] at this
          omega
        k_steps
        unfold MineStop
        ((rename Fr g' _ _ _ => lF); (rename News g' _ _ _ => lN))
        refine tv_add lF lN hsh hoth (by omega) fun z2 h9 nw2 hz2 ez2 hsub lF2 lN2 => ?_
        ((replace hone := hone.mono hsub); (replace hoth := hoth.mono hsub); (replace hsh := hsh.mono hsub); (replace hbo := hbo.mono hsub); clear lF lN)
        k_steps
        unfold MineStop
        ((rename Fr g' _ _ _ => lF); (rename News g' _ _ _ => lN))
        refine tv_len lF lN hoth (by omega) fun t8 k8 => ?_
        k_steps
        unfold MineStop
        ((rename Fr g' _ _ _ => lF); (rename News g' _ _ _ => lN))
        refine tv_from (s := ⟨_, _, _, _, _⟩) lF lN hone (by omega) l2 hl5 fun z3 h9 nw3 hz3 ez3 hsub lF2 lN2 => ?_
        ((replace hone := hone.mono hsub); (replace hoth := hoth.mono hsub); (replace hsh := hsh.mono hsub); (replace hbo := hbo.mono hsub); clear lF lN)
        replace hz2 := hz2.mono hsub
        clear hsub
        k_steps
        ((rename Fr g' _ _ _ => lF); (rename News g' _ _ _ => lN))
        have ec := euc_cut ez4 hP2 ez3
        have tl : ∀ (b : Addr × Obj), ∀ p ∈ nw3, p ∈ b :: nw3 := fun _ _ q => .tail _ q
        refine' ksw_end (σ := EuSt) ⟨z3, oth, z2, _⟩ lF lN (fun _ q => q) ?q1 ?q2 ?q3 trivial ?q4
        case q2 => kst_all
        case q3 => ksw_same
        case q4 => dsimp only; rw [ez3, List.length_drop]; omega
        case q1 =>
          refine ⟨hz3.mono (tl _), hoth.mono (tl _), hz2.mono (tl _), hbo.mono (tl _), ?_, ?_, ?_, n2⟩
          · dsimp only; rw [e1, ez2, ec]; simp
          · dsimp only; rw [e2, ez2, ec]; simp
          · dsimp only; rintro e; rw [e] at ec; simp at ec; exact hEq ec
      · simp only [hP2, decide_false]
        k_steps
        unfold MineStop
        ((rename Fr g' _ _ _ => lF); (rename News g' _ _ _ => lN))
        have h0 := euc_in (n := 0) (fun j hj => absurd hj (Nat.not_lt_zero j)) ez1 hP ez4 hP2 (by omega) (by omega)
        with_unfolding_all refine' ksw_while (σ := KSt) (fun _ => nw4) (fun c => [(Str.ofString "k", .int c.k c.t)]) (fun c => KSt.ok one.ns oth.ns c) [] (fun _ => True) (fun c => one.ns.length - c.k.toNat) ⟨0, _⟩ lF ?kn ?kf ?kk trivial ?_
        case kn => exact lN
        case kk => kst_all
        case kf => exact ⟨Int.le_refl _, by dsimp only; omega, by dsimp only; omega, fun j hj => absurd hj (Nat.not_lt_zero j)⟩
        clear lF lN
        intro c kU kH kTk kFacts kP kFr kNews
        obtain ⟨k, kt⟩ := c
        obtain ⟨hk0, hk1, hk2, hke⟩ := kFacts
        dsimp only at hk0 hk1 hk2 hke
        obtain ⟨n, rfl⟩ : ∃ n : Nat, k = n := ⟨k.toNat, by omega⟩
        ((have kMark : KstMark := kstMark); (try dsimp only [kstB] at kFr); (try dsimp only at kNews); (try simp only [List.nil_append, List.cons_append, List.append_nil] at kNews); (try k_fold))
        k_steps
        unfold MineStop
        ((rename Fr g' _ _ _ => lF); (rename News g' _ _ _ => lN))
        refine tv_item lF lN hone (by omega) (by omega) (by omega) fun t7 => ?_
        k_steps
        unfold MineStop
        ((rename Fr g' _ _ _ => lF); (rename News g' _ _ _ => lN))
        refine tv_item lF lN hoth (by omega) (by omega) (by omega) fun t8 => ?_
        simp only [Int.toNat_natCast]
        k_with "compareOp Eq int int" => (apply mineStop)
        k_steps
        unfold MineStop
        refine eq_int ?_
        by_cases hq : one.ns.getD n 0 = oth.ns.getD n 0
        · have hke2 : ∀ j, j < n + 1 → one.ns.getD j 0 = oth.ns.getD j 0 := fun j hj => by
            rcases Nat.lt_or_ge j n with h | h
            · exact hke j (by omega)
            · rw [show j = n by omega]; exact hq
          have h0 := euc_in hke2 ez1 hP ez4 hP2 (by omega) (by omega)
          simp only [hq, beq_self_eq_true]
          k_steps
          ((rename Fr g' _ _ _ => lF); (rename News g' _ _ _ => lN))
          refine' ksw_end (σ := KSt) ⟨(n : Int) + 1, _⟩ lF lN (fun _ q => q) ?q1 ?q2 ?q3 trivial ?q4
          case q2 => kst_all
          case q3 => ksw_same
          case q4 => dsimp only; omega
          case q1 => exact ⟨by dsimp only; omega, by dsimp only; omega, by dsimp only; omega, fun j hj => hke2 j (by dsimp only at hj; omega)⟩
        · have hq2 : (one.ns.getD n 0 == oth.ns.getD n 0) = false := by simpa using hq
          simp only [hq2]
          k_steps
          unfold MineStop
          ((rename Fr g' _ _ _ => lF); (rename News g' _ _ _ => lN))
          refine tv_upto (s := ⟨_, _, _, _, _⟩) lF lN hone (by omega) fun z5 h9 nw5 hz5 ez5 hsub lF2 lN2 => ?_
          ((replace hone := hone.mono hsub); (replace hoth := hoth.mono hsub); (replace hsh := hsh.mono hsub); (replace hbo := hbo.mono hsub); clear lF lN)
          k_steps
          unfold MineStop
          ((rename Fr g' _ _ _ => lF); (rename News g' _ _ _ => lN))
          have hl6 : z5.ns.length ≤ one.ns.length := by rw [ez5, List.length_take]; omega
          refine tv_add lF lN hsh hz5 (by omega) fun z6 h9 nw6 hz6 ez6 hsub lF2 lN2 => ?_
          ((replace hone := hone.mono hsub); (replace hoth := hoth.mono hsub); (replace hsh := hsh.mono hsub); (replace hbo := hbo.mono hsub); clear lF lN)
          k_steps
          ((rename Fr g' _ _ _ => lF); (rename News g' _ _ _ => lN))
          exact hret _ _ _ (ext_of eg lF) ⟨_, _, rfl, hz6.at lF lN, euc_diff e1 e2 (fun j hj => hke j (by omega)) (by omega) (by omega) hq ez5 ez6 ▸ hz6.1⟩

end Mine
end

section
open PySem PySem.W PyProof.Rows PySem.Calls
set_option Elab.async false
set_option maxRecDepth 100000
set_option linter.unusedVariables false
namespace Mine
local macro_rules | `(tactic| walk_at "mine enter") => `(tactic| (refine' Mine.enterF ?k1 ?k2 ?k3 ?k5 ?kA ?kF ?kK ?k6 ?k7 ?k8 ?k9 ?kB ?_ ?c2 ?c3 ?c4 ?c5; (case kA => exact rfl); (case kF => exact rfl); (case kK => assumption); (case k1 => k_asm); (case k2 => k_asm); (case k3 => k_asm); (case k5 => k_asm); (case k6 => k_is); (case k7 => k_is); (case k8 => ktr_room); (case k9 => exact BindsTo.of_eq rfl); (case c5 => decide); (case kB => exact locs rfl); (case c2 => exact rfl); (case c3 => exact rfl); (case c4 => exact rfl); k_whole))
local macro_rules | `(tactic| units_room) => `(tactic| (have hcL' := cLine_is; simp only [units_in1, units_deeper, Around.mark_units, units_caller]; dsimp only [ktrTop]; omega))

set_option maxHeartbeats 40000000 in
theorem words_call {w : World} {s : Shared} {c b : Int} {t u : Tok} (hc : 0 ≤ c) (hc' : c < 10000) (hb : 0 ≤ b) (hb' : b < 1000) :
   Cl w 173 2 400 [.int c t, .int b u] s (fun h' r => ∃ d f k fv kv fn kn, r = .ref d ∧ New s.heap h' d (tupOf [.ref f, .ref k]) ∧ h'.IsList f (fv : List Value).toArray ∧ h'.IsList k (kv : List Value).toArray ∧ IntsAre fv fn ∧ IntsAre kv kn ∧ fn ≠ [] ∧ kn ≠ [] ∧ (∀ n ∈ fn, 0 ≤ n ∧ n < 6) ∧ (∀ n ∈ kn, 0 ≤ n ∧ n < 6) ∧ fn.length ≤ 3 ∧ kn.length ≤ 9) := by
  unfold Cl
  k_with_none
  k_fill
  intro p loose mean mg mb dp un gd cn cs a ccd cl outer A₀ base h₀ L m Q E B F X T hk hd hu hret
  k_dflt (walk_at "mine enter")
  intro g' L' h' eg FG' F' N' B' X' T'
  try dsimp only
  try k_lift B'
  try k_fold
  k_with "binaryOp Add ref ref" => (apply mineStop)
  k_with "pyIter ref" => (apply mineStop)
  k_with "subscriptTail" => (apply mineStop)
  k_steps
  unfold MineStop
  ((rename Fr g' _ _ _ => lF); (rename News g' _ _ _ => lN))
  dsimp only
  obtain ⟨a, ha, ha1, ha3⟩ : ∃ a : Nat, 1 + c.fmod 3 = a ∧ 1 ≤ a ∧ a ≤ 3 := ⟨(1 + c.fmod 3).toNat, by rw [Int.fmod_eq_emod_of_nonneg _ (by decide)]; omega, by rw [Int.fmod_eq_emod_of_nonneg _ (by decide)]; omega, by rw [Int.fmod_eq_emod_of_nonneg _ (by decide)]; omega⟩
  rw [ha]
  refine kba_turn (value' := PySem.Expr.Name (PySem.Str.ofString "_") ⟨0, 0, 0, 0⟩) (fun _ => rfl) ?_
  refine lv_upto (s := ⟨_, _, _, _, _⟩) (x := ⟨_, [_, _, _], [_, _, _]⟩) lF lN (.of_new (.cons _ _ (.cons _ _ (.cons _ _ .nil))) (.head _)) (by simp only [List.length_cons, List.length_nil]; omega) fun first h9 nw1 hfi efi hsub lF2 lN2 => ?_
  clear lF lN hsub
  dsimp only at efi
  k_steps
  unfold MineStop
  ((rename Fr g' _ _ _ => lF); (rename News g' _ _ _ => lN))
  dsimp only
  have hfb : ∀ n ∈ first.ns, 0 ≤ n ∧ n < 6 := by
    rw [efi]
    intro n hn
    have := List.mem_of_mem_take hn
    simp only [List.mem_cons, List.not_mem_nil, or_false] at this
    rcases this with rfl | rfl | rfl <;> (rw [Int.fmod_eq_emod_of_nonneg _ (by decide)]; omega)
  have hfl : first.ns.length = a := by rw [efi, List.length_take]; simp only [List.length_cons, List.length_nil]; omega
  refine ff_list (σ := Lv) (ns := [b.fmod 10, (b.fdiv 10).fmod 10, b.fdiv 100]) (fun z => [(Str.ofString "second", .ref z.a)]) (fun pre z nx => z.Has g' nx ∧ first.Has g' nx ∧ (∀ n ∈ z.ns, 0 ≤ n ∧ n < 6) ∧ z.ns.length ≤ 3 * pre.length ∧ (pre ≠ [] → z.ns ≠ [])) [] ⟨_, [], []⟩ rfl (Lv.Has.at (Lv.Has.of_new (g := g') (.cons _ _ (.cons _ _ (.cons _ _ .nil))) (.head _)) lF lN) (lN _ (.head _)).2.1 (.cons _ _ (.cons _ _ (.cons _ _ .nil))) lF lN ⟨.of_new .nil (.tail _ (.head _)), hfi.mono fun _ q => .tail _ (.tail _ q), by simp, by simp, by simp⟩ ?kk ?turn ?done
  case kk => kst_all
  case turn =>
    clear lF lN
    intro z pre post n tn kU kH kTk own nx I epre hI hfacts kFr kNews
    obtain ⟨hz, hfi, hzb, hzl, hzn⟩ := hfacts
    have hn9 : 0 ≤ n ∧ n ≤ 9 := by
      have hm : n ∈ [b.fmod 10, (b.fdiv 10).fmod 10, b.fdiv 100] := by rw [epre]; simp
      simp only [List.mem_cons, List.not_mem_nil, or_false] at hm
      rcases hm with rfl | rfl | rfl
      · rw [Int.fmod_eq_emod_of_nonneg _ (by decide)]; omega
      · rw [Int.fmod_eq_emod_of_nonneg _ (by decide)]; omega
      · rw [Int.fdiv_eq_ediv_of_nonneg _ (by decide)]; omega
    have hpl : pre.length ≤ 2 := by have := congrArg List.length epre; simp at this; omega
    ((have kMark : KstMark := kstMark); (try dsimp only [kstB] at kFr); (try dsimp only at kNews); (try simp only [List.nil_append, List.cons_append, List.append_nil] at kNews); (try k_fold))
    k_steps
    all_goals unfold MineStop
    · ((rename Fr g' _ _ _ => lF); (rename News g' _ _ _ => lN))
      refine lv_add lF lN (hz.mono fun _ q => List.mem_append_left _ q) (hfi.mono fun _ q => List.mem_append_left _ q) (by omega) fun z2 h9 nw2 hz2 ez2 hsub lF2 lN2 => ?_
      clear lF lN
      k_steps
      ((rename Fr g' _ _ _ => lF); (rename News g' _ _ _ => lN))
      have hown : ∀ p ∈ own, p ∈ nw2 := fun p hp => hsub p (List.mem_append_right _ hp)
      dsimp only [FfPost]
      refine' ff_end z2 lF lN hown ?q1 ?q2 ?q3
      case q2 => kst_all
      case q3 => kst_same
      refine ⟨hz2.off lN hI hown, (hfi.mono fun _ q => hsub _ (List.mem_append_left _ q)).off lN hI hown, ?_, ?_, ?_⟩
      · rw [ez2]; intro k hk; rcases List.mem_append.mp hk with hk | hk
        · exact hzb k hk
        · exact hfb k hk
      · rw [ez2]; simp only [List.length_append]; simp; omega
      · intro _ e; rw [ez2] at e; rw [List.append_eq_nil_iff] at e; rw [e.2] at hfl; simp at hfl; omega
    · ((rename Fr g' _ _ _ => lF); (rename News g' _ _ _ => lN))
      refine lv_add (y := ⟨_, [_], [_]⟩) lF lN (hz.mono fun _ q => .tail _ (List.mem_append_left _ q)) (.of_new (.cons _ _ .nil) (.head _)) (by simp only [List.length_cons, List.length_nil]; omega) fun z2 h9 nw2 hz2 ez2 hsub lF2 lN2 => ?_
      dsimp only at ez2
      clear lF lN
      k_steps
      ((rename Fr g' _ _ _ => lF); (rename News g' _ _ _ => lN))
      have hown : ∀ p ∈ own, p ∈ nw2 := fun p hp => hsub p (.tail _ (List.mem_append_right _ hp))
      dsimp only [FfPost]
      refine' ff_end z2 lF lN hown ?v1 ?v2 ?v3
      case v2 => kst_all
      case v3 => kst_same
      refine ⟨hz2.off lN hI hown, (hfi.mono fun _ q => hsub _ (.tail _ (List.mem_append_left _ q))).off lN hI hown, ?_, ?_, ?_⟩
      · rw [ez2]; intro k hk; rcases List.mem_append.mp hk with hk | hk
        · exact hzb k hk
        · rcases List.mem_singleton.mp hk with rfl; omega
      · rw [ez2]; simp only [List.length_append]; simp; omega
      · intro _ e; rw [ez2] at e; simp at e
  case done =>
    clear lF lN
    intro z kU kH kTk nx hfacts kFr kNews
    obtain ⟨hz, hfi, hzb, hzl, hzn⟩ := hfacts
    ((have kMark : KstMark := kstMark); (try dsimp only [kstB] at kFr); (try dsimp only at kNews); (try simp only [List.nil_append, List.cons_append, List.append_nil] at kNews); (try k_fold))
    k_steps
    ((rename Fr g' _ _ _ => lF); (rename News g' _ _ _ => lN))
    refine hret _ _ _ (ext_of eg lF) ⟨_, _, _, _, _, _, _, rfl, new_of eg lN (.head _), Lv.Has.at (hfi.mono fun _ q => .tail _ q) lF lN, Lv.Has.at (hz.mono fun _ q => .tail _ q) lF lN, hfi.1, hz.1, ?_, hzn (by simp), hfb, hzb, ?_, ?_⟩
    · rintro e; rw [e] at hfl; simp at hfl; omega
    · omega
    · simpa using hzl

end Mine
end

section
open PySem PySem.W PyProof.Rows PySem.Calls
set_option Elab.async false
set_option maxRecDepth 100000
set_option linter.unusedVariables false
namespace Mine
local macro_rules | `(tactic| walk_at "mine enter") => `(tactic| (refine' Mine.enterF ?k1 ?k2 ?k3 ?k5 ?kA ?kF ?kK ?k6 ?k7 ?k8 ?k9 ?kB ?_ ?c2 ?c3 ?c4 ?c5; (case kA => exact rfl); (case kF => exact rfl); (case kK => assumption); (case k1 => k_asm); (case k2 => k_asm); (case k3 => k_asm); (case k5 => k_asm); (case k6 => k_is); (case k7 => k_is); (case k8 => ktr_room); (case k9 => exact BindsTo.of_eq rfl); (case c5 => decide); (case kB => exact locs rfl); (case c2 => exact rfl); (case c3 => exact rfl); (case c4 => exact rfl); k_whole))
local macro_rules | `(tactic| units_room) => `(tactic| (have hcL' := cLine_is; simp only [units_in1, units_deeper, Around.mark_units, units_caller]; dsimp only [ktrTop]; omega))

set_option maxHeartbeats 40000000 in
theorem cells_call {w : World} {s : Shared} {l : Addr} {vs : List Value} {ns : List Int} (hl : s.heap.IsList l vs.toArray) (hi : IntsAre vs ns) (hn : ns.length ≤ 1000) :
   Cl w 166 2 400 [.ref l] s (fun h' r => ∃ d cv cn, r = .ref d ∧ h'.IsList d (cv : List Value).toArray ∧ IntsAre cv cn ∧ cn.length = 7) := by
  unfold Cl
  k_with_none
  k_fill
  intro p loose mean mg mb dp un gd cn cs a ccd cl outer A₀ base h₀ L m Q E B F X T hk hd hu hret
  k_dflt (walk_at "mine enter")
  intro g' L' h' eg FG' F' N' B' X' T'
  rw [← eg] at hl
  try dsimp only
  try k_lift B'
  try k_fold
  k_with "pyIter ref" => (apply mineStop)
  k_steps
  unfold MineStop
  ((rename Fr g' _ _ _ => lF); (rename News g' _ _ _ => lN))
  (rename IsRange _ _ _ _ _ _ _ _ => rgX)
  with_unfolding_all refine' kst_range (σ := CeSt) (fun c => [(?lS, W.listOf c.vs.toArray c.cap)]) (fun _ => []) (fun c => c.ok) [] (fun _ _ => True) ⟨[_, _, _, _, _, _, _], [100, 277, 256, 255, 300, 0, 256], 0⟩ (by rfl) rgX (by first | decide | exact small_one (by omega) (by omega) (by omega) (by omega)) (by first | exact rangeSize_nat _ _ | rfl) lF ?kn ?kf ?kk trivial ?turn ?done
  case kn => exact lN
  case kk => kst_all
  case kf => exact ⟨.cons _ _ (.cons _ _ (.cons _ _ (.cons _ _ (.cons _ _ (.cons _ _ (.cons _ _ .nil)))))), rfl⟩
  case turn =>
    clear lF lN
    intro c pre k kt kU kH kTk own ek hlt hoff kFacts kP kFr kNews
    obtain ⟨cv, cn, cap⟩ := c
    obtain ⟨hi7, hn7⟩ := kFacts
    dsimp only at hi7 hn7
    have hk0 : 0 ≤ k := by omega
    have hk1 : k < ns.length := by omega
    ((have kMark : KstMark := kstMark); (try dsimp only [kstB] at kFr); (try dsimp only at kNews); (try simp only [List.nil_append, List.cons_append, List.append_nil] at kNews); (try k_fold))
    k_steps
    ((rename Fr g' _ _ _ => lF); (rename News g' _ _ _ => lN))
    refine' kst_end (σ := CeSt) ⟨_, cn.set (k.fmod 7).toNat (cn.getD (k.fmod 7).toNat 0 + ns.getD k.toNat 0), _⟩ lF lN ?q1 ?q2 ?q3 ?q4 ?q5 ?q6 trivial
    case q1 => exact fun p hp => by rcases List.mem_singleton.mp hp with rfl; exact .head _
    case q2 => exact fun p hp => List.mem_cons_of_mem _ (by simpa using hp)
    case q3 => rfl
    case q4 => exact ⟨ints_set hi7 _, (List.length_set ..).trans hn7⟩
    case q5 => kst_all
    case q6 => kst_same
  case done =>
    clear lF lN
    intro c kU kH kTk kFacts kP kFr kNews
    obtain ⟨cv, cn, cap⟩ := c
    obtain ⟨hi7, hn7⟩ := kFacts
    dsimp only at hi7 hn7
    ((have kMark : KstMark := kstMark); (try dsimp only [kstB] at kFr); (try dsimp only at kNews); (try simp only [List.nil_append, List.cons_append, List.append_nil] at kNews); (try k_fold))
    k_steps
    ((rename Fr g' _ _ _ => lF); (rename News g' _ _ _ => lN))
    exact hret _ _ _ (ext_of eg lF) ⟨_, _, _, rfl, ⟨_, (lN _ (.head _)).1, rfl, _, rfl⟩, hi7, hn7⟩

end Mine
end

section
open PySem PySem.W PyProof.Rows PySem.Calls
set_option Elab.async false
set_option maxRecDepth 100000
set_option linter.unusedVariables false
namespace Mine
local macro_rules | `(tactic| walk_at "mine enter") => `(tactic| (refine' Mine.enterF ?k1 ?k2 ?k3 ?k5 ?kA ?kF ?kK ?k6 ?k7 ?k8 ?k9 ?kB ?_ ?c2 ?c3 ?c4 ?c5; (case kA => exact rfl); (case kF => exact rfl); (case kK => assumption); (case k1 => k_asm); (case k2 => k_asm); (case k3 => k_asm); (case k5 => k_asm); (case k6 => k_is); (case k7 => k_is); (case k8 => ktr_room); (case k9 => exact BindsTo.of_eq rfl); (case c5 => decide); (case kB => exact locs rfl); (case c2 => exact rfl); (case c3 => exact rfl); (case c4 => exact rfl); k_whole))
local macro_rules | `(tactic| units_room) => `(tactic| (have hcL' := cLine_is; simp only [units_in1, units_deeper, Around.mark_units, units_caller]; dsimp only [ktrTop]; omega))

set_option maxHeartbeats 40000000 in
theorem hdn_call {w : World} {s : Shared} {x : Str} {t : Tok} (hx : x.cps.size ≤ 1000000) :
   Cl w 147 3 400 [.str x t] s (fun h' r => r = .bool (!anyHit x.cps x.cps.size x.cps.size 0)) := by
  unfold Cl
  k_with_none
  k_fill
  intro p loose mean mg mb dp un gd cn cs a ccd cl outer A₀ base h₀ L m Q E B F X T hk hd hu hret
  k_dflt (walk_at "mine enter")
  intro g' L' h' eg FG' F' N' B' X' T'
  try dsimp only
  try k_lift B'
  try k_fold
  k_steps
  refine pat_search (patI (by assumption) (by assumption)) ?_
  k_steps
  (rename Fr g' _ _ _ => lF)
  (rename News g' _ _ _ => lN)
  refine search_I (patI (by assumption) lF) hx (fun hno => ?_) (fun hyes d h' hk hn hm => ?_)
  · k_steps
    refine hret _ _ _ (ext_of eg lF) ?_
    rw [hno]; rfl
  · have fF := fr_ext lF hk
    have fN := news_ext lN hk
    clear lF lN
    refine truthy_match hm ?_
    simp only [if_true]
    k_steps
    refine hret _ _ _ (ext_of eg fF) ?_
    rw [hyes]; rfl

end Mine
end

section
open PySem PySem.W PyProof.Rows PySem.Calls
set_option Elab.async false
set_option maxRecDepth 100000
namespace Mine
local macro_rules | `(tactic| walk_at "mine enter") => `(tactic| (refine' Mine.enterF ?k1 ?k2 ?k3 ?k5 ?kA ?kF ?kK ?k6 ?k7 ?k8 ?k9 ?kB ?_ ?c2 ?c3 ?c4 ?c5; (case kA => exact rfl); (case kF => exact rfl); (case kK => assumption); (case k1 => k_asm); (case k2 => k_asm); (case k3 => k_asm); (case k5 => k_asm); (case k6 => k_is); (case k7 => k_is); (case k8 => ktr_room); (case k9 => exact BindsTo.of_eq rfl); (case c5 => decide); (case kB => exact locs rfl); (case c2 => exact rfl); (case c3 => exact rfl); (case c4 => exact rfl); k_whole))

set_option maxHeartbeats 40000000 in
theorem laid_call {w : World} {s : Shared} {page : Str} {t u : Tok} {place : Int} {l : Addr} {vs : List Value} {ns : List Int} (hl : s.heap.IsList l vs.toArray) (hi : IntsAre vs ns) (hb : ∀ n ∈ ns, 0 ≤ n ∧ n < 6) (hn : ns.length ≤ 100) (h0 : 0 ≤ place) (h1 : place ≤ 100000) (hp : page.length ≤ 100000) :
   Cl w 180 1 8 [.str page t, .int place u, .ref l] s (fun h' r => ∃ d pg t' q u', r = .ref d ∧ New s.heap h' d (tupOf [.str pg t', .int q u']) ∧ q = place + (ns.length : Int) ∧ pg.cps.toList = page.cps.toList ++ laidL place ns) := by
  unfold Cl
  k_with_none
  k_fill
  intro p loose mean mg mb dp un gd cn cs a ccd cl outer A₀ base h₀ L m Q E B F X T hk hd hu hret
  k_dflt (walk_at "mine enter")
  intro g' L' h' eg FG' F' N' B' X' T'
  rw [← eg] at hl
  try dsimp only
  try k_lift B'
  try k_fold
  k_with "state" => first
    | exact laid_start
    | exact laid_even (by assumption) (by assumption) (by assumption) (by assumption) (by decide +kernel)
    | exact laid_odd (by assumption) (by assumption) (by assumption) (by assumption) (by decide +kernel)
  k_with "pyIter ref" => k_state_given ["page!", "place!"] (fun p0 q0 pre pg q => q = q0 + (pre.length : Int) ∧ pg.length ≤ p0.length + 3 * pre.length ∧ pg.cps.toList = p0.cps.toList ++ laidL q0 pre) "page" "place"
  k_steps
  · (rename (_ ∈ _) => kM)
    rcases six (hb _ kM) with e | e | e | e | e | e <;> subst e
    all_goals k_steps
  (rename Fr g' _ _ _ => lF)
  (rename News g' _ _ _ => lN)
  refine hret _ _ _ (ext_of eg lF) ⟨_, _, _, _, _, rfl, new_of eg lN (.head _), ?_, ?_⟩ <;> assumption
end Mine
end

section
open PySem PySem.W PyProof.Rows PySem.Calls
set_option Elab.async false
set_option maxRecDepth 100000
set_option linter.unusedVariables false
namespace Mine
local macro_rules | `(tactic| walk_at "mine enter") => `(tactic| (refine' Mine.enterF ?k1 ?k2 ?k3 ?k5 ?kA ?kF ?kK ?k6 ?k7 ?k8 ?k9 ?kB ?_ ?c2 ?c3 ?c4 ?c5; (case kA => exact rfl); (case kF => exact rfl); (case kK => assumption); (case k1 => k_asm); (case k2 => k_asm); (case k3 => k_asm); (case k5 => k_asm); (case k6 => k_is); (case k7 => k_is); (case k8 => ktr_room); (case k9 => exact BindsTo.of_eq rfl); (case c5 => decide); (case kB => exact locs rfl); (case c2 => exact rfl); (case c3 => exact rfl); (case c4 => exact rfl); k_whole))
local macro_rules | `(tactic| units_room) => `(tactic| (have hcL' := cLine_is; simp only [units_in1, units_deeper, Around.mark_units, units_caller]; dsimp only [ktrTop]; omega))

set_option maxHeartbeats 40000000 in
theorem page_call {w : World} {s : Shared} {f k l : Addr} {fv kv vs : List Value} {fn kn ns : List Int} (hf : s.heap.IsList f fv.toArray) (hfi : IntsAre fv fn) (hk' : s.heap.IsList k kv.toArray) (hki : IntsAre kv kn) (hl : s.heap.IsList l vs.toArray) (hi : IntsAre vs ns) (hfb : ∀ n ∈ fn, 0 ≤ n ∧ n < 6) (hkb : ∀ n ∈ kn, 0 ≤ n ∧ n < 6) (hfl : fn.length ≤ 3) (hkl : kn.length ≤ 9) (hn : ns.length ≤ 5) :
   Cl w 187 6 500 [.ref f, .ref k, .ref l] s (fun h' r => ∃ x t, r = .str x t ∧ x.cps.toList = laidL 0 (piecesL fn kn [] ns ++ (fn ++ kn))) := by
  unfold Cl
  k_with_none
  k_fill
  intro p loose mean mg mb dp un gd cn cs a ccd cl outer A₀ base h₀ L m Q E B F X T hk hd hu hret
  k_dflt (walk_at "mine enter")
  intro g' L' h' eg FG' F' N' B' X' T'
  rw [← eg] at hf
  rw [← eg] at hk'
  rw [← eg] at hl
  try dsimp only
  try k_lift B'
  try k_fold
  k_with "pyIter ref" => (apply mineStop)
  k_with "call ref" => (apply mineStop)
  k_with "binaryOp Add ref ref" => (apply mineStop)
  k_steps
  unfold MineStop
  ((rename Fr g' _ _ _ => lF); (rename News g' _ _ _ => lN))
  refine' ff_list (σ := PgSt) (ns := ns) (fun c => [(Str.ofString "page", .str c.page c.pt), (Str.ofString "place", .int c.place c.qt)]) (fun pre c _ => c.ok fn kn pre) [Str.ofString "high", Str.ofString "free", Str.ofString "word"] ⟨_, _, 0, _, []⟩ rfl (hl.at fun o e => lF.keep _ o e) (Lv.Has.off_L (z := ⟨l, vs, ns⟩) (.of_base hi hl) lF lN) hi lF lN ?kf ?kk ?turn ?done
  case kk => kst_all
  case kf => exact ⟨rfl, rfl, rfl, by simp, by simp⟩
  case turn =>
    clear lF lN
    intro c pre post n tn kU kH kTk own nx I epre hI hfacts kFr kNews
    obtain ⟨page, pt, place, qt, done⟩ := c
    obtain ⟨hp, hq, hdn, hdb, hdl⟩ := hfacts
    dsimp only at hp hq hdn hdb hdl
    have hpl : pre.length ≤ 4 := by have := congrArg List.length epre; simp at this; omega
    have hpg : page.length ≤ 1000 := by
      have h1 := laidL_len done 0
      rw [← hp, Array.length_toList] at h1
      show page.cps.size ≤ _
      omega
    ((have kMark : KstMark := kstMark); (try dsimp only [kstB] at kFr); (try dsimp only at kNews); (try simp only [List.nil_append, List.cons_append, List.append_nil] at kNews); (try k_fold))
    k_steps
    unfold MineStop
    ((rename Fr g' _ _ _ => lF); (rename News g' _ _ _ => lN))
    refine' Mine.use B' lF X' lN T' rfl isnt_call ?k2 ?k3 ?_
    case k2 => dsimp only [ktrTop]; omega
    case k3 => dsimp only [ktrTop]; omega
    rintro r h3 tk3 - hr lF3 lN3
    subst hr
    clear lF lN
    dsimp only
    k_steps
    unfold MineStop
    ((rename Fr g' _ _ _ => lF); (rename News g' _ _ _ => lN))
    refine' Mine.use B' lF X' lN T' rfl (hdn_call (Nat.le_trans hpg (by decide))) ?k4 ?k5 ?_
    case k4 => dsimp only [ktrTop]; omega
    case k5 => dsimp only [ktrTop]; omega
    rintro r h4 tk4 - hr lF4 lN4
    subst hr
    clear lF lN
    rw [hit_of hp]
    obtain ⟨b2, hb2⟩ : ∃ b, hitL (laidL 0 done) = b := ⟨_, rfl⟩
    obtain ⟨b1, hb1⟩ : ∃ b, decide (256 ≤ n) = b := ⟨_, rfl⟩
    rw [hb2]
    try rw [hb1]
    try rw [hb1] at lF4
    dsimp only
    cases b1 <;> cases b2
    · try dsimp only [Bool.not_true, Bool.not_false]
      k_steps
      unfold MineStop
      ((rename Fr g' _ _ _ => lF); (rename News g' _ _ _ => lN))
      refine' Mine.use B' lF X' lN T' rfl (laid_call (inBase hk' lF) hki hkb ?a0 ?b0 ?c0 ?d0) ?e0 ?f0 ?_
      case a0 => omega
      case b0 => omega
      case c0 => omega
      case d0 => omega
      case e0 => dsimp only [ktrTop]; omega
      case f0 => dsimp only [ktrTop]; omega
      rintro r h5 tk5 - ⟨d5, pg5, t5, q5, u5, rfl, hnew5, hq5, hpg5⟩ lF5 lN5
      replace lN5 := news_new lF lN5 hnew5
      clear lF lN
      dsimp only
      k_steps
      ((rename Fr g' _ _ _ => lF); (rename News g' _ _ _ => lN))
      dsimp only [FfPost]
      refine' ff_end (σ := PgSt) ⟨pg5, _, q5, _, done ++ kn⟩ lF lN ?g0 ?h0 ?i0 ?j0
      case g0 => exact fun p hp => by first | exact .tail _ (.tail _ (List.mem_append_right _ hp)) | exact .tail _ (List.mem_append_right _ hp)
      case i0 => kst_all
      case j0 => kst_same
      case h0 =>
        refine ⟨?_, ?_, ?_, ?_, ?_⟩
        · dsimp only; rw [hpg5, hp, laidL_append, hq]; simp
        · dsimp only; rw [hq5, hq]; simp
        · dsimp only; rw [piecesL_app, ← hdn, hb1, hb2]; rfl
        · exact fun z hz => (List.mem_append.mp hz).elim (hdb z) (hkb z)
        · dsimp only; simp only [List.length_append, List.length_cons, List.length_nil]; omega
    · try dsimp only [Bool.not_true, Bool.not_false]
      k_steps
      unfold MineStop
      ((rename Fr g' _ _ _ => lF); (rename News g' _ _ _ => lN))
      refine' Mine.use B' lF X' lN T' rfl (laid_call (inBase hf lF) hfi hfb ?a1 ?b1 ?c1 ?d1) ?e1 ?f1 ?_
      case a1 => omega
      case b1 => omega
      case c1 => omega
      case d1 => omega
      case e1 => dsimp only [ktrTop]; omega
      case f1 => dsimp only [ktrTop]; omega
      rintro r h5 tk5 - ⟨d5, pg5, t5, q5, u5, rfl, hnew5, hq5, hpg5⟩ lF5 lN5
      replace lN5 := news_new lF lN5 hnew5
      clear lF lN
      dsimp only
      k_steps
      ((rename Fr g' _ _ _ => lF); (rename News g' _ _ _ => lN))
      dsimp only [FfPost]
      refine' ff_end (σ := PgSt) ⟨pg5, _, q5, _, done ++ fn⟩ lF lN ?g1 ?h1 ?i1 ?j1
      case g1 => exact fun p hp => by first | exact .tail _ (.tail _ (List.mem_append_right _ hp)) | exact .tail _ (List.mem_append_right _ hp)
      case i1 => kst_all
      case j1 => kst_same
      case h1 =>
        refine ⟨?_, ?_, ?_, ?_, ?_⟩
        · dsimp only; rw [hpg5, hp, laidL_append, hq]; simp
        · dsimp only; rw [hq5, hq]; simp
        · dsimp only; rw [piecesL_app, ← hdn, hb1, hb2]; rfl
        · exact fun z hz => (List.mem_append.mp hz).elim (hdb z) (hfb z)
        · dsimp only; simp only [List.length_append, List.length_cons, List.length_nil]; omega
    · try dsimp only [Bool.not_true, Bool.not_false]
      k_steps
      unfold MineStop
      ((rename Fr g' _ _ _ => lF); (rename News g' _ _ _ => lN))
      refine' Mine.use B' lF X' lN T' rfl (laid_call (inBase hf lF) hfi hfb ?a2 ?b2 ?c2 ?d2) ?e2 ?f2 ?_
      case a2 => omega
      case b2 => omega
      case c2 => omega
      case d2 => omega
      case e2 => dsimp only [ktrTop]; omega
      case f2 => dsimp only [ktrTop]; omega
      rintro r h5 tk5 - ⟨d5, pg5, t5, q5, u5, rfl, hnew5, hq5, hpg5⟩ lF5 lN5
      replace lN5 := news_new lF lN5 hnew5
      clear lF lN
      dsimp only
      k_steps
      ((rename Fr g' _ _ _ => lF); (rename News g' _ _ _ => lN))
      dsimp only [FfPost]
      refine' ff_end (σ := PgSt) ⟨pg5, _, q5, _, done ++ fn⟩ lF lN ?g2 ?h2 ?i2 ?j2
      case g2 => exact fun p hp => by first | exact .tail _ (.tail _ (List.mem_append_right _ hp)) | exact .tail _ (List.mem_append_right _ hp)
      case i2 => kst_all
      case j2 => kst_same
      case h2 =>
        refine ⟨?_, ?_, ?_, ?_, ?_⟩
        · dsimp only; rw [hpg5, hp, laidL_append, hq]; simp
        · dsimp only; rw [hq5, hq]; simp
        · dsimp only; rw [piecesL_app, ← hdn, hb1, hb2]; rfl
        · exact fun z hz => (List.mem_append.mp hz).elim (hdb z) (hfb z)
        · dsimp only; simp only [List.length_append, List.length_cons, List.length_nil]; omega
    · try dsimp only [Bool.not_true, Bool.not_false]
      k_steps
      unfold MineStop
      ((rename Fr g' _ _ _ => lF); (rename News g' _ _ _ => lN))
      refine' Mine.use B' lF X' lN T' rfl (laid_call (inBase hk' lF) hki hkb ?a3 ?b3 ?c3 ?d3) ?e3 ?f3 ?_
      case a3 => omega
      case b3 => omega
      case c3 => omega
      case d3 => omega
      case e3 => dsimp only [ktrTop]; omega
      case f3 => dsimp only [ktrTop]; omega
      rintro r h5 tk5 - ⟨d5, pg5, t5, q5, u5, rfl, hnew5, hq5, hpg5⟩ lF5 lN5
      replace lN5 := news_new lF lN5 hnew5
      clear lF lN
      dsimp only
      k_steps
      ((rename Fr g' _ _ _ => lF); (rename News g' _ _ _ => lN))
      dsimp only [FfPost]
      refine' ff_end (σ := PgSt) ⟨pg5, _, q5, _, done ++ kn⟩ lF lN ?g3 ?h3 ?i3 ?j3
      case g3 => exact fun p hp => by first | exact .tail _ (.tail _ (List.mem_append_right _ hp)) | exact .tail _ (List.mem_append_right _ hp)
      case i3 => kst_all
      case j3 => kst_same
      case h3 =>
        refine ⟨?_, ?_, ?_, ?_, ?_⟩
        · dsimp only; rw [hpg5, hp, laidL_append, hq]; simp
        · dsimp only; rw [hq5, hq]; simp
        · dsimp only; rw [piecesL_app, ← hdn, hb1, hb2]; rfl
        · exact fun z hz => (List.mem_append.mp hz).elim (hdb z) (hkb z)
        · dsimp only; simp only [List.length_append, List.length_cons, List.length_nil]; omega
  case done =>
    clear lF lN
    intro c kU kH kTk nx hfacts kFr kNews
    obtain ⟨page, pt, place, qt, done⟩ := c
    obtain ⟨hp, hq, hdn, hdb, hdl⟩ := hfacts
    dsimp only at hp hq hdn hdb hdl
    have hpg : page.length ≤ 1000 := by
      have h1 := laidL_len done 0
      rw [← hp, Array.length_toList] at h1
      show page.cps.size ≤ _
      omega
    ((have kMark : KstMark := kstMark); (try dsimp only [kstB] at kFr); (try dsimp only at kNews); (try simp only [List.nil_append, List.cons_append, List.append_nil] at kNews); (try k_fold))
    k_steps
    unfold MineStop
    ((rename Fr g' _ _ _ => lF); (rename News g' _ _ _ => lN))
    refine' Mine.use B' lF X' lN T' rfl (laid_call (ns := fn ++ kn) ⟨_, (lN _ (.head _)).1, rfl, _, rfl⟩ ?a7 ?a8 ?a9 ?b9 ?c9 ?d9) ?e9 ?f9 ?_
    case a7 => assumption
    case a8 => exact fun z hz => (List.mem_append.mp hz).elim (hfb z) (hkb z)
    case a9 => rw [List.length_append]; omega
    case b9 => omega
    case c9 => omega
    case d9 => omega
    case e9 => dsimp only [ktrTop]; omega
    case f9 => dsimp only [ktrTop]; omega
    rintro r h5 tk5 - ⟨d5, pg5, t5, q5, u5, rfl, hnew5, hq5, hpg5⟩ lF5 lN5
    replace lN5 := news_new lF lN5 hnew5
    clear lF lN
    dsimp only
    k_steps
    ((rename Fr g' _ _ _ => lF); (rename News g' _ _ _ => lN))
    refine hret _ _ _ (ext_of eg lF) ⟨_, _, rfl, ?_⟩
    rw [hpg5, hp, ← hdn, hq]
    simp only [laidL_append, Int.zero_add]

end Mine
end

section
open PySem PySem.W PyProof.Rows PySem.Calls
set_option Elab.async false
set_option maxRecDepth 100000
set_option linter.unusedVariables false
set_option linter.unusedSimpArgs false
namespace Mine
local macro_rules | `(tactic| units_room) => `(tactic| (have hcL' := cLine_is; simp only [units_in1, units_deeper, Around.mark_units, units_caller]; dsimp only [ktrTop]; omega))
local macro_rules | `(tactic| walk_at "eval ListComp") => `(tactic| k_extra "mine comp")
local macro_rules | `(tactic| walk_at "exec Expr") => `(tactic| k_extra "mine expr")
local macro_rules | `(tactic| walk_at "getMethod ref") => `(tactic| k_extra "mine meth")
local macro_rules | `(tactic| walk_at "call builtin:list.append") => `(tactic| k_extra "mine app")

/- Names laid ahead: where the head of tt would lay a quick twin of one of its own constants, it finds the name taken and goes on with the constant itself. The twins are right, but they are large: without them the compiled file stays small. -/
def tt.tw9862334231172404068 : Unit := ()
def tt.tw17770013527049825156 : Unit := ()
def tt.tw17407206939071603780 : Unit := ()
def tt.tw15965032552816590660 : Unit := ()
def tt.tw768698445151210852 : Unit := ()
def tt.tw5955839580386169252 : Unit := ()
def tt.tw10143959824290413508 : Unit := ()
def tt.tw845805150174434276 : Unit := ()
def tt.tw15785470193820693604 : Unit := ()
def tt.tw15205823000157863805 : Unit := ()
def tt.tw11121865131217135005 : Unit := ()
def tt.tw11767576039201868253 : Unit := ()
def tt.tw12849781785518897757 : Unit := ()
def tt.tw9855094719710387389 : Unit := ()
def tt.tw16968976317022181597 : Unit := ()
def tt.tw4790617918828432733 : Unit := ()
def tt.tw15085192646481713117 : Unit := ()
def tt.tw5086475100422433309 : Unit := ()
def tt.tw7671068140679085181 : Unit := ()
def tt.tw14212120467400786045 : Unit := ()
def tt.tw17580122510210825469 : Unit := ()
def tt.tw6985590810900254973 : Unit := ()
def tt.tw15913500381130257414 : Unit := ()
def tt.tw11805934429122792038 : Unit := ()
def tt.tw1378020142741187910 : Unit := ()
def tt.tw11776394988237302118 : Unit := ()
def tt.tw6065118080855585670 : Unit := ()
def tt.tw9824328201275826246 : Unit := ()
def tt.tw14933812908804159558 : Unit := ()
def tt.tw3461270877253841574 : Unit := ()
def tt.tw10726413051843914406 : Unit := ()
def tt.tw3596223518454132998 : Unit := ()
def tt.tw1583737727474461062 : Unit := ()
def tt.tw15441000965091750335 : Unit := ()
def tt.tw18196006184208563647 : Unit := ()
def tt.tw14658704612233823519 : Unit := ()
def tt.tw12772698279602790751 : Unit := ()
def tt.tw18375136339718292351 : Unit := ()
def tt.tw17716592443370759103 : Unit := ()
def tt.tw10035173257741584639 : Unit := ()
def tt.tw9717537436087612191 : Unit := ()
def tt.tw15610685264818719680 : Unit := ()
def tt.tw2918792671600287264 : Unit := ()
def tt.tw13011907873532973152 : Unit := ()
def tt.tw1994156215124224096 : Unit := ()
def tt.tw13042531759106208448 : Unit := ()
def tt.tw14398204220478477152 : Unit := ()
def tt.tw6648860534794774400 : Unit := ()
def tt.tw5204764591320883072 : Unit := ()
def tt.tw5423554141500088224 : Unit := ()
def tt.tw16235543749356732000 : Unit := ()
def tt.tw1227667103805538944 : Unit := ()
def tt.tw4508177973300115648 : Unit := ()
def tt.tw4253106939551658057 : Unit := ()
def tt.tw16853386156205780041 : Unit := ()
def tt.tw5023204600152440553 : Unit := ()
def tt.tw2118323437550105417 : Unit := ()
def tt.tw9140538522060158857 : Unit := ()
def tt.tw4562997347110796489 : Unit := ()
def tt.tw11831270415575560393 : Unit := ()
def tt.tw13020715134340560649 : Unit := ()
def tt.tw15577260874676890658 : Unit := ()
def tt.tw4692470734307615778 : Unit := ()
def tt.tw1053995199388117570 : Unit := ()
def tt.tw8437758405893935906 : Unit := ()
def tt.tw2007089010801322306 : Unit := ()
def tt.tw4990131638344204226 : Unit := ()
def tt.tw3553058285414687394 : Unit := ()
def tt.tw9798709395480823650 : Unit := ()
def tt.tw11586054698724612939 : Unit := ()
def tt.tw8321150744960918347 : Unit := ()
def tt.tw914244595599352811 : Unit := ()
def tt.tw3863134570233288364 : Unit := ()
def tt.tw3667984143994954828 : Unit := ()
def tt.tw18320935608088945740 : Unit := ()
def tt.tw13697708514075569772 : Unit := ()
def tt.tw4728024636517787884 : Unit := ()
def tt.tw9970634275350307660 : Unit := ()
def tt.tw14672383101896776620 : Unit := ()
def tt.tw15729683303750658028 : Unit := ()
def tt.tw493974445407013868 : Unit := ()
def tt.tw3650185338341130220 : Unit := ()
def tt.tw7727279649056094764 : Unit := ()
def tt.tw9005650025359402661 : Unit := ()
def tt.tw15923477210347890373 : Unit := ()
def tt.tw2489788169309172581 : Unit := ()
def tt.tw16231067489664897509 : Unit := ()
def tt.tw319176305387625093 : Unit := ()
def tt.tw8409026494806676229 : Unit := ()
def tt.tw10630519850471540517 : Unit := ()
def tt.tw8277118562204886405 : Unit := ()
def tt.tw15522084042314810309 : Unit := ()
def tt.tw10630600121163907758 : Unit := ()
def tt.tw1666800335505891118 : Unit := ()
def tt.tw10416419149167712238 : Unit := ()
def tt.tw13516407644856037998 : Unit := ()
def tt.tw16608580336140454190 : Unit := ()
def tt.tw5140318808976283758 : Unit := ()
def tt.tw10417595904179293294 : Unit := ()
def tt.tw5762700406813531719 : Unit := ()
def tt.tw4461007205715639879 : Unit := ()
def tt.tw17762019828065684071 : Unit := ()
def tt.tw7152542949175445639 : Unit := ()
def tt.tw6378315438535654087 : Unit := ()
def tt.tw13304804678901517063 : Unit := ()
def tt.tw392445628891194887 : Unit := ()
def tt.tw15518781902673061959 : Unit := ()
def tt.tw6598926995285627079 : Unit := ()
def tt.tw15757882715109789895 : Unit := ()
def tt.tw18021582498410195175 : Unit := ()
def tt.tw468680223022672840 : Unit := ()
def tt.tw1879870789764961992 : Unit := ()
def tt.tw13811872282313037096 : Unit := ()
def tt.tw16577462561161044872 : Unit := ()
def tt.tw13043421075533891208 : Unit := ()
def tt.tw174532448923626280 : Unit := ()
def tt.tw17013875822531533905 : Unit := ()
def tt.tw10357711282864539473 : Unit := ()
def tt.tw5240835782155822961 : Unit := ()
def tt.tw17457729540164062097 : Unit := ()
def tt.tw5512466822766887345 : Unit := ()
def tt.tw15762969935683297041 : Unit := ()
def tt.tw1795392855584525649 : Unit := ()
def tt.tw4958134643662795121 : Unit := ()
def tt.tw7521812330582482410 : Unit := ()
def tt.tw7390803972589154826 : Unit := ()
def tt.tw9897747691398749290 : Unit := ()
def tt.tw9761099398650248426 : Unit := ()
def tt.tw17558182767031352586 : Unit := ()
def tt.tw9322607207402337546 : Unit := ()
def tt.tw2224816774374966090 : Unit := ()
def tt.tw11345589001719502890 : Unit := ()
def tt.tw2682455053756777066 : Unit := ()
def tt.tw11196701636250738826 : Unit := ()
def tt.tw10192616142381971210 : Unit := ()
def tt.tw511859252457507443 : Unit := ()
def tt.tw9270887557601313043 : Unit := ()
def tt.tw14030953181914710835 : Unit := ()
def tt.tw5675599119055746419 : Unit := ()
def tt.tw8660112759871361395 : Unit := ()
def tt.tw17360494107730706867 : Unit := ()
def tt.tw15667268325308402099 : Unit := ()
def tt.tw905656918297563123 : Unit := ()
def tt.tw5747639311597684307 : Unit := ()
def tt.tw1215354278760704179 : Unit := ()
def tt.tw12832257269573860051 : Unit := ()
def tt.tw466819072999169939 : Unit := ()
def tt.tw3151302607705712083 : Unit := ()
def tt.tw6964369846714286579 : Unit := ()
def tt.tw16039069859189290004 : Unit := ()
def tt.tw7896042876363226900 : Unit := ()
def tt.tw1717514842218654068 : Unit := ()
def tt.tw678229405490246772 : Unit := ()
def tt.tw16066699777535027892 : Unit := ()
def tt.tw7199286336744299796 : Unit := ()
def tt.tw16001968196642530612 : Unit := ()
def tt.tw7441430721602571572 : Unit := ()
def tt.tw2786992424667865396 : Unit := ()
def tt.tw340797468290552909 : Unit := ()
def tt.tw9667849692600609869 : Unit := ()
def tt.tw810738657573416077 : Unit := ()
def tt.tw189325481100504749 : Unit := ()
def tt.tw16412183851540621197 : Unit := ()
def tt.tw3328598821780065165 : Unit := ()
def tt.tw17548012741388968429 : Unit := ()
def tt.tw3136956790219844854 : Unit := ()
def tt.tw7430211067264215862 : Unit := ()
def tt.tw12900588249483872694 : Unit := ()
def tt.tw17961920246662000822 : Unit := ()
def tt.tw12507179909576309462 : Unit := ()
def tt.tw13793238257053813494 : Unit := ()
def tt.tw4195744490400941814 : Unit := ()
def tt.tw2079980981525626774 : Unit := ()
def tt.tw3238289115099818646 : Unit := ()
def tt.tw8972039182469888527 : Unit := ()
def tt.tw10669700825569539119 : Unit := ()
def tt.tw5237708353301818991 : Unit := ()
def tt.tw8573076195340232911 : Unit := ()
def tt.tw9903676891015034703 : Unit := ()
def tt.tw6688100710974509039 : Unit := ()
def tt.tw8826583889775951407 : Unit := ()
def tt.tw16191487459441356335 : Unit := ()
def tt.tw42113295535214479 : Unit := ()
def tt.tw14709218066395561808 : Unit := ()
def tt.tw3211136681117122064 : Unit := ()
def tt.tw17881977236224200368 : Unit := ()
def tt.tw15456245300666422992 : Unit := ()
def tt.tw958793849338525136 : Unit := ()
def tt.tw15703620476833841913 : Unit := ()
def tt.tw1615929970851352217 : Unit := ()
def tt.tw10449586856731479769 : Unit := ()
def tt.tw7419606705846323449 : Unit := ()
def tt.tw16859761760773452057 : Unit := ()
def tt.tw11477092116848285689 : Unit := ()
def tt.tw14671002741414715385 : Unit := ()
def tt.tw14332516811909550681 : Unit := ()
def tt.tw11178211588243079769 : Unit := ()
def tt.tw8096782035809297298 : Unit := ()
def tt.tw4286891236464113586 : Unit := ()
def tt.tw4008336664583549426 : Unit := ()
def tt.tw13849509896240428146 : Unit := ()
def tt.tw769559321809430226 : Unit := ()
def tt.tw18236181584517155826 : Unit := ()
def tt.tw10177921268740537906 : Unit := ()
def tt.tw14402838068373956338 : Unit := ()
def tt.tw13063568975421659890 : Unit := ()
def tt.tw1189750066677442171 : Unit := ()
def tt.tw6376843055216867131 : Unit := ()
def tt.tw2691529926591519547 : Unit := ()
def tt.tw11338255618786086747 : Unit := ()
def tt.tw14272309803049152891 : Unit := ()
def tt.tw1966817396578749851 : Unit := ()
def tt.tw10815197037780206555 : Unit := ()
def tt.tw9133568230962416603 : Unit := ()
def tt.tw7066068805659168731 : Unit := ()
def tt.tw12229574005426965851 : Unit := ()
def tt.tw10768492824315470779 : Unit := ()
def tt.tw12942090739961453499 : Unit := ()
def tt.tw17420748220152939451 : Unit := ()
def tt.tw4937119970786135676 : Unit := ()
def tt.tw9893863272192337692 : Unit := ()
def tt.tw17063980697844608380 : Unit := ()
def tt.tw13093691339854381436 : Unit := ()
def tt.tw7578862721504948156 : Unit := ()
def tt.tw1463700415384358428 : Unit := ()
def tt.tw14600478572334511420 : Unit := ()
def tt.tw3819245626995240412 : Unit := ()
def tt.tw16216774826356424188 : Unit := ()
def tt.tw18357509698804068693 : Unit := ()
def tt.tw16127260253158681141 : Unit := ()
def tt.tw14466253205329709781 : Unit := ()
def tt.tw15308187754424879957 : Unit := ()
def tt.tw3643010467432630910 : Unit := ()
def tt.tw8250437437003035806 : Unit := ()
def tt.tw10151912149230994590 : Unit := ()
def tt.tw1086931216262036830 : Unit := ()
def tt.tw11590913539960636766 : Unit := ()
def tt.tw11428321810494499070 : Unit := ()
def tt.tw18323846132004334846 : Unit := ()
def tt.tw7335867412796798814 : Unit := ()
def tt.tw1314408471706360702 : Unit := ()
def tt.tw5159657363769918878 : Unit := ()
def tt.tw11717872324761571774 : Unit := ()
def tt.tw9579081967040494590 : Unit := ()
def tt.tw7282903817718065239 : Unit := ()
def tt.tw7941015495636478039 : Unit := ()
def tt.tw11415326093489017527 : Unit := ()
def tt.tw9673502101297535383 : Unit := ()
def tt.tw15163425085900164535 : Unit := ()
def tt.tw13595414397213240599 : Unit := ()
def tt.tw12278015570639099191 : Unit := ()
def tt.tw2007558385215133720 : Unit := ()
def tt.tw16592751717575173752 : Unit := ()
def tt.tw4049707259780863640 : Unit := ()
def tt.tw11770622522800442744 : Unit := ()
def tt.tw8290436681156721048 : Unit := ()
def tt.tw11980550960007577144 : Unit := ()
def tt.tw10454472638777327160 : Unit := ()
def tt.tw10643758397244939576 : Unit := ()
def tt.tw14506462340247546296 : Unit := ()
def tt.tw1118588304945035457 : Unit := ()
def tt.tw16259053796800004289 : Unit := ()
def tt.tw3149215934262255841 : Unit := ()
def tt.tw7236079906945872097 : Unit := ()
def tt.tw5601462813289531361 : Unit := ()
def tt.tw16849594049859709441 : Unit := ()
def tt.tw2207986180749843265 : Unit := ()
def tt.tw5650355538524123009 : Unit := ()
def tt.tw8591066645956603361 : Unit := ()
def tt.tw9404580339779896353 : Unit := ()
def tt.tw6306174898743376449 : Unit := ()
def tt.tw13980387081761228961 : Unit := ()
def tt.tw15617978657018297946 : Unit := ()
def tt.tw2053041835199880826 : Unit := ()
def tt.tw6207121497745694490 : Unit := ()
def tt.tw10214950478182852282 : Unit := ()
def tt.tw9483392835845870266 : Unit := ()
def tt.tw3533268251901176026 : Unit := ()
def tt.tw17384296012297311450 : Unit := ()
def tt.tw4102262332599350234 : Unit := ()
def tt.tw4766227094069981178 : Unit := ()
def tt.tw16225238944574292675 : Unit := ()
def tt.tw11597418958280270115 : Unit := ()
def tt.tw16830725764588807459 : Unit := ()
def tt.tw9739655011919281347 : Unit := ()
def tt.tw2710539863077063811 : Unit := ()
def tt.tw16460735706733158312 : Unit := ()
def tt.tw5987568267908960478 : Unit := ()
def tt.tw4555462946037337122 : Unit := ()

set_option Elab.async true in
set_option maxHeartbeats 40000000 in
theorem tt : PySem.Challenge.rw_wa0017_01.Holds := by
  w_on
  o_law
  o_head (kHook Mine.fr.heap_1 [2, 3, 32, 34, 35, 37, 38, 39, 42, 44, 45, 47, 48, 49, 51, 52, 54, 55, 56, 58, 59, 61, 62, 63, 70, 72, 73, 75, 76, 77, 78, 79, 82, 89, 91, 92, 94, 95, 96, 98, 99, 101, 102, 103, 105, 106, 108, 109, 110, 111, 112, 115, 117, 118, 120, 121, 122, 124, 125, 127, 128, 129, 131, 132, 134, 135, 139, 140, 141, 143, 144, 146, 147, 151, 152, 153, 155, 156, 158, 159, 160, 162, 163, 165, 166, 167, 169, 170, 172, 173, 174, 176, 177, 179, 180, 181, 183, 184, 186, 187, 188, 190, 191, 193, 194, 195, 197, 198, 200, 201, 202, 204, 205, 207, 208, 209, 211, 212, 214, 215, 216, 219, 220] (fun _ => by kernel_rfl))
  (case hw => w_witness2)
  k_with_none
  k_with "call ref" => (apply mineStop)
  k_with "pyIter ref" => (apply mineStop)
  k_with "subscriptTail" => (apply mineStop)
  k_with "call type:tuple" => (apply mineStop)
  k_with "binaryOp Add ref ref" => (apply mineStop)
  k_with "compareOp NotEq ref ref" => (apply mineStop)
  k_with "compareOp Eq ref ref" => (apply mineStop)
  k_with "call builtin:len" => (apply mineStop)
  k_go0
  (all_goals try k_fold)
  k_steps
  unfold MineStop
  ((rename Fr _ _ _ _ => lF); (rename News _ _ _ _ => lN))
  (rename Below _ _ _ _ => B')
  (rename PySem.W.Frag.In _ _ => X')
  (rename Top _ _ _ _ _ _ => T')
  (rename IntsAre _ _ => hI)
  (rename Heap.IsList _ _ _ => hL)
  have hcm := mem_of_news lN
  (rename Obj.data _ = Data.cell _ => hcd)
  refine' Mine.use B' lF X' lN T' rfl (cells_call (inBase hL lF) hI ?k1) ?k2 ?k3 ?_
  case k1 => omega
  case k2 => decide
  case k3 => (have hcL' := cLine_is; simp only [units_in1, units_deeper, Around.mark_units, units_caller]; omega)
  rintro r h3 tk3 - ⟨d3, cv, cn, rfl, hl3, hi3, hn7⟩ lF3 lN3
  obtain ⟨nw3, hce, hsub, lN3'⟩ := lv_get hl3 hi3 lF3 lN3
  replace hcm := hsub _ hcm
  clear lF lN lN3
  dsimp only
  k_steps
  unfold MineStop
  ((rename Fr _ _ _ _ => lF); (rename News _ _ _ _ => lN))
  refine lv_item (x := ⟨d3, cv, cn⟩) lF lN hce (by dsimp only; omega) (by decide) (by dsimp only; omega) fun t9 => ?_
  dsimp only
  k_steps
  unfold MineStop
  ((rename Fr _ _ _ _ => lF); (rename News _ _ _ _ => lN))
  refine lv_item (x := ⟨d3, cv, cn⟩) lF lN hce (by dsimp only; omega) (by decide) (by dsimp only; omega) fun t8 => ?_
  dsimp only
  k_steps
  unfold MineStop
  ((rename Fr _ _ _ _ => lF); (rename News _ _ _ _ => lN))
  refine' Mine.use B' lF X' lN T' rfl (words_call (mine_mod (by decide)).1 (mine_mod (by decide)).2 (mine_mod (by decide)).1 (mine_mod (by decide)).2) ?k4 ?k5 ?_
  case k4 => decide
  case k5 => (have hcL' := cLine_is; simp only [units_in1, units_deeper, Around.mark_units, units_caller]; omega)
  rintro r h4 tk4 - ⟨d4, fa, ka, fv, kv, fn, kn, rfl, hnew4, hfl, hkl, hfi, hki, hfn, hkn, hfb, hkb, hfz, hkz⟩ lF4 lN4
  replace lN4 := news_new lF lN4 hnew4
  obtain ⟨nw5, hfi5, hsub5, lN5⟩ := lv_get hfl hfi lF4 lN4
  obtain ⟨nw6, hki6, hsub6, lN6⟩ := lv_get hkl hki lF4 lN5
  replace hfi := hfi5.mono hsub6
  replace hki := hki6
  replace hce := hce.mono fun p q => hsub6 p (hsub5 p (.tail _ q))
  have hm4 := hsub6 _ (hsub5 _ (.head _))
  replace hcm := hsub6 _ (hsub5 _ (.tail _ hcm))
  clear lF lN lN4 lN5 hfi5 hki6
  dsimp only
  k_steps
  unfold MineStop
  ((rename Fr _ _ _ _ => lF); (rename News _ _ _ _ => lN))
  refine lv_from (s := ⟨_, _, _, _, _⟩) (x := ⟨d3, cv, cn⟩) (a := 2) lF lN hce (by dsimp only; omega) fun nz h9 nw9 hnz enz hsub lF2 lN2 => ?_
  dsimp only at enz
  replace hfi := hfi.mono hsub
  replace hki := hki.mono hsub
  replace hce := hce.mono hsub
  replace hcm := hsub _ hcm
  clear lF lN hm4
  have hnz5 : nz.ns.length = 5 := by rw [enz, List.length_drop]; omega
  k_steps
  unfold MineStop
  ((rename Fr _ _ _ _ => lF); (rename News _ _ _ _ => lN))
  refine' Mine.use B' lF X' lN T' rfl (page_call (hfi.at lF lN) hfi.1 (hki.at lF lN) hki.1 (hnz.at lF lN) hnz.1 hfb hkb hfz hkz ?k6) ?k7 ?k8 ?_
  case k6 => omega
  case k7 => decide
  case k8 => (have hcL' := cLine_is; simp only [units_in1, units_deeper, Around.mark_units, units_caller]; omega)
  rintro r h5 tk5 - ⟨x5, t5, rfl, hx5⟩ lF5 lN5
  clear lF lN
  dsimp only
  k_steps
  unfold MineStop
  ((rename Fr _ _ _ _ => lF); (rename News _ _ _ _ => lN))
  have hpb := piecesL_ok hfb hkb hfz hkz nz.ns [] (by simp)
  have hpl : (piecesL fn kn [] nz.ns ++ (fn ++ kn)).length ≤ 1000 := by
    have := hpb.2
    simp only [List.length_append, List.length_nil] at this ⊢
    omega
  have hpb6 : ∀ n ∈ piecesL fn kn [] nz.ns ++ (fn ++ kn), 0 ≤ n ∧ n < 6 := by
    intro n hn
    rcases List.mem_append.mp hn with hn | hn
    · exact hpb.1 n hn
    · exact (List.mem_append.mp hn).elim (hfb n) (hkb n)
  refine' Mine.use B' lF X' lN T' rfl (great_call hpb6 hpl hx5) ?k9 ?k10 ?_
  case k9 => decide
  case k10 => (have hcL' := cLine_is; simp only [units_in1, units_deeper, Around.mark_units, units_caller]; omega)
  rintro r h6 tk6 - ⟨x6, t6, rfl, hx6⟩ lF6 lN6
  clear lF lN
  dsimp only
  k_steps
  unfold MineStop
  ((rename Fr _ _ _ _ => lF); (rename News _ _ _ _ => lN))
  refine' Mine.use B' lF X' lN T' rfl (read_call hpb6 hpl hx6) ?k11 ?k12 ?_
  case k11 => decide
  case k12 => (have hcL' := cLine_is; simp only [units_in1, units_deeper, Around.mark_units, units_caller]; omega)
  rintro r h7 tk7 - ⟨d7, rv, rfl, hnew7, hrv⟩ lF7 lN7
  obtain ⟨rowN, hrowN⟩ : ∃ R : List Int, R = (piecesL fn kn [] nz.ns ++ (fn ++ kn)).map symI := ⟨_, rfl⟩
  rw [← hrowN] at hrv
  obtain ⟨nw7, hro, hsub7, lN7'⟩ := tv_new lF lN7 hnew7 hrv
  clear lF lN lN7
  replace hfi := hfi.mono hsub7
  replace hki := hki.mono hsub7
  replace hce := hce.mono hsub7
  replace hnz := hnz.mono hsub7
  replace hcm := hsub7 _ hcm
  dsimp only
  k_steps
  ((rename Fr _ _ _ _ => lF); (rename News _ _ _ _ => lN))
  obtain ⟨nw8, hsy, hsub8, lN8⟩ := lv_top (its := [_, _, _, _, _, _]) lN (.cons 23 _ (.cons 304 _ (.cons 15 _ (.cons 491 _ (.cons 266 _ (.cons 1891 _ .nil))))))
  clear lN
  replace hro := hro.mono hsub8
  replace hfi := hfi.mono hsub8
  replace hki := hki.mono hsub8
  replace hce := hce.mono hsub8
  replace hnz := hnz.mono hsub8
  replace hcm := hsub8 _ hcm
  have lN := lN8
  clear lN8 hsub8
  refine store_cell lF lN ?k13 hcm hcd fun h10 o10 lF2 lN2 hcm2 hcd2 => ?_
  case k13 => exact rfl
  have hncell := cell_ne hcd
  replace hro := hro.upd (o := o10) (hro.ne lF lN hcm (.inr hncell))
  replace hfi := hfi.upd (o := o10) (hfi.ne lF lN hcm hncell)
  replace hki := hki.upd (o := o10) (hki.ne lF lN hcm hncell)
  replace hce := hce.upd (o := o10) (hce.ne lF lN hcm hncell)
  replace hnz := hnz.upd (o := o10) (hnz.ne lF lN hcm hncell)
  replace hsy := hsy.upd (o := o10) (hsy.ne lF lN hcm hncell)
  have hS : SymAt _ _ _ _ := ⟨⟨o10, hcm2, hcd2⟩, hsy, rfl⟩
  clear lF lN hcm hsy hcm2
  dsimp only
  k_steps
  ((rename Fr _ _ _ _ => lF); (rename News _ _ _ _ => lN))
  refine symb_src (X := ⟨fa, fv, fn⟩) lF lN hfi hS hfb (by dsimp only; omega) fun y11 h11 tk11 nw11 hy11 ey11 hsub lF2 lN2 => ?_
  dsimp only at ey11
  clear lF lN
  replace hro := hro.mono hsub
  replace hfi := hfi.mono hsub
  replace hki := hki.mono hsub
  replace hce := hce.mono hsub
  replace hnz := hnz.mono hsub
  replace hS := hS.mono hsub
  clear hsub
  dsimp only
  k_steps
  unfold MineStop
  ((rename Fr _ _ _ _ => lF); (rename News _ _ _ _ => lN))
  refine tv_tuple lF lN hy11 (by rw [ey11, List.length_map]; omega) fun one h12 nw12 hone eone hsub lF2 lN2 => ?_
  rw [ey11] at eone
  clear lF lN hy11 ey11
  replace hro := hro.mono hsub
  replace hfi := hfi.mono hsub
  replace hki := hki.mono hsub
  replace hce := hce.mono hsub
  replace hnz := hnz.mono hsub
  replace hS := hS.mono hsub
  clear hsub
  dsimp only
  k_steps
  ((rename Fr _ _ _ _ => lF); (rename News _ _ _ _ => lN))
  refine symb_src (X := ⟨ka, kv, kn⟩) lF lN hki hS hkb (by dsimp only; omega) fun y11 h11 tk11 nw11 hy11 ey11 hsub lF2 lN2 => ?_
  dsimp only at ey11
  clear lF lN
  replace hro := hro.mono hsub
  replace hfi := hfi.mono hsub
  replace hki := hki.mono hsub
  replace hce := hce.mono hsub
  replace hnz := hnz.mono hsub
  replace hS := hS.mono hsub
  replace hone := hone.mono hsub
  clear hsub
  dsimp only
  k_steps
  unfold MineStop
  ((rename Fr _ _ _ _ => lF); (rename News _ _ _ _ => lN))
  refine tv_tuple lF lN hy11 (by rw [ey11, List.length_map]; omega) fun oth h12 nw12 hoth eoth hsub lF2 lN2 => ?_
  rw [ey11] at eoth
  clear lF lN hy11 ey11
  replace hro := hro.mono hsub
  replace hfi := hfi.mono hsub
  replace hki := hki.mono hsub
  replace hce := hce.mono hsub
  replace hnz := hnz.mono hsub
  replace hS := hS.mono hsub
  replace hone := hone.mono hsub
  clear hsub
  dsimp only
  k_steps
  unfold MineStop
  ((rename Fr _ _ _ _ => lF); (rename News _ _ _ _ => lN))
  have hol : one.ns.length ≤ 3 := by rw [eone, List.length_map]; exact hfz
  have htl : oth.ns.length ≤ 9 := by rw [eoth, List.length_map]; exact hkz
  refine' Mine.use B' lF X' lN T' rfl (euclid_call (hone.at lF lN) hone.1 (hoth.at lF lN) hoth.1 ?k14 ?k15 ?k16 ?k17) ?k18 ?k19 ?_
  case k14 => rw [eone]; simpa using hfn
  case k15 => rw [eoth]; simpa using hkn
  case k16 => omega
  case k17 => omega
  case k18 => decide
  case k19 => (have hcL' := cLine_is; simp only [units_in1, units_deeper, Around.mark_units, units_caller]; omega)
  rintro r h13 tk13 - ⟨d13, sv, rfl, hst, hsi⟩ lF3 lN3
  obtain ⟨sh, hshd⟩ : ∃ z : Tv, z = ⟨d13, sv, _⟩ := ⟨⟨d13, sv, lcp2 (one.ns ++ oth.ns) (oth.ns ++ one.ns)⟩, rfl⟩
  obtain ⟨nw13, hsh, hsub, lN4⟩ := tv_get hst hsi lF3 lN3
  clear lF lN lN3
  rw [← hshd] at hsh
  replace hro := hro.mono hsub
  replace hfi := hfi.mono hsub
  replace hki := hki.mono hsub
  replace hce := hce.mono hsub
  replace hnz := hnz.mono hsub
  replace hS := hS.mono hsub
  replace hone := hone.mono hsub
  replace hoth := hoth.mono hsub
  have esh : sh.ns = lcp2 (one.ns ++ oth.ns) (oth.ns ++ one.ns) := by rw [hshd]
  have ead : d13 = sh.a := by rw [hshd]
  clear hshd hst hsi
  subst ead
  dsimp only
  k_steps
  unfold MineStop
  ((rename Fr _ _ _ _ => lF); (rename News _ _ _ _ => lN))
  refine tv_add lF lN hone hoth (by omega) fun za h14 nw14 hza eza hsub lF2 lN2 => ?_
  clear lF lN
  replace hro := hro.mono hsub
  replace hfi := hfi.mono hsub
  replace hki := hki.mono hsub
  replace hce := hce.mono hsub
  replace hnz := hnz.mono hsub
  replace hS := hS.mono hsub
  replace hone := hone.mono hsub
  replace hoth := hoth.mono hsub
  replace hsh := hsh.mono hsub
  clear hsub
  k_steps
  unfold MineStop
  ((rename Fr _ _ _ _ => lF); (rename News _ _ _ _ => lN))
  refine tv_add lF lN hoth hone (by omega) fun zb h15 nw15 hzb ezb hsub lF2 lN2 => ?_
  clear lF lN
  replace hro := hro.mono hsub
  replace hfi := hfi.mono hsub
  replace hki := hki.mono hsub
  replace hce := hce.mono hsub
  replace hnz := hnz.mono hsub
  replace hS := hS.mono hsub
  replace hone := hone.mono hsub
  replace hoth := hoth.mono hsub
  replace hsh := hsh.mono hsub
  replace hza := hza.mono hsub
  clear hsub
  have hzal : za.ns.length ≤ 12 := by rw [eza, List.length_append]; omega
  have hzbl : zb.ns.length ≤ 12 := by rw [ezb, List.length_append]; omega
  k_steps
  unfold MineStop
  ((rename Fr _ _ _ _ => lF); (rename News _ _ _ _ => lN))
  refine' Mine.use B' lF X' lN T' rfl (cp_tup_call (items := [.ref za.a, .ref zb.a]) (nss := [za.ns, zb.ns]) ⟨_, (lN _ (.head _)).1, rfl, _, rfl⟩ (rows_two ((hza.mono (fun _ q => List.mem_cons_of_mem _ q)).seq lF lN) ((hzb.mono (fun _ q => List.mem_cons_of_mem _ q)).seq lF lN)) (Nat.le_refl 2) (Nat.le_of_ble_eq_true rfl) ?k20) ?k21 ?k22 ?_
  case k20 => intro ns hn; simp at hn; rcases hn with rfl | rfl <;> omega
  case k21 => decide
  case k22 => (have hcL' := cLine_is; simp only [units_in1, units_deeper, Around.mark_units, units_caller]; omega)
  rintro r h16 tk16 - ⟨d16, pv, rfl, hpt, hpi⟩ lF3 lN3
  rw [cp_two, eza, ezb, ← esh] at hpi
  obtain ⟨nw16, hp16, hsub, lN4⟩ := tv_get hpt hpi lF3 lN3
  clear lF lN lN3
  replace hro := hro.mono (fun p q => hsub p (List.mem_cons_of_mem _ q))
  replace hfi := hfi.mono (fun p q => hsub p (List.mem_cons_of_mem _ q))
  replace hki := hki.mono (fun p q => hsub p (List.mem_cons_of_mem _ q))
  replace hce := hce.mono (fun p q => hsub p (List.mem_cons_of_mem _ q))
  replace hnz := hnz.mono (fun p q => hsub p (List.mem_cons_of_mem _ q))
  replace hS := hS.mono (fun p q => hsub p (List.mem_cons_of_mem _ q))
  replace hone := hone.mono (fun p q => hsub p (List.mem_cons_of_mem _ q))
  replace hoth := hoth.mono (fun p q => hsub p (List.mem_cons_of_mem _ q))
  replace hsh := hsh.mono (fun p q => hsub p (List.mem_cons_of_mem _ q))
  clear hsub
  dsimp only
  k_steps
  unfold MineStop
  ((rename Fr _ _ _ _ => lF); (rename News _ _ _ _ => lN))
  refine tv_ne (x := ⟨d16, pv, sh.ns⟩) lF lN hp16 hsh (by units_room) ?_
  simp only [decide_true, Bool.not_true]
  clear hp16 hpt hpi
  k_steps
  unfold MineStop
  ((rename Fr _ _ _ _ => lF); (rename News _ _ _ _ => lN))
  obtain ⟨nw17, ld, lt, lr, eld, elt, elr, hdt, hdr, htr, hdl, htl9, hrl, hsub, lN4⟩ := three_lists2 lN (by k_ne) (by k_ne) (by k_ne)
  subst eld elt elr
  clear lN
  replace hro := hro.mono hsub
  replace hfi := hfi.mono hsub
  replace hki := hki.mono hsub
  replace hce := hce.mono hsub
  replace hnz := hnz.mono hsub
  replace hS := hS.mono hsub
  replace hone := hone.mono hsub
  replace hoth := hoth.mono hsub
  replace hsh := hsh.mono hsub
  clear hsub
  refine tv_add lF lN4 hone hoth (by omega) fun zc h17 nw18 hzc ezc hsub lF2 lN2 => ?_
  clear lF lN4
  replace hro := hro.mono hsub
  replace hfi := hfi.mono hsub
  replace hki := hki.mono hsub
  replace hce := hce.mono hsub
  replace hnz := hnz.mono hsub
  replace hS := hS.mono hsub
  replace hone := hone.mono hsub
  replace hoth := hoth.mono hsub
  replace hsh := hsh.mono hsub
  replace hdl := hsub _ hdl
  replace htl9 := hsub _ htl9
  replace hrl := hsub _ hrl
  clear hsub
  k_steps
  unfold MineStop
  ((rename Fr _ _ _ _ => lF); (rename News _ _ _ _ => lN))
  refine tv_eq lF lN hsh hzc (by units_room) ?_
  clear hzc
  by_cases hEq : sh.ns = zc.ns
  · simp only [hEq, decide_true]
    have hC : Ctx _ _ ⟨fa, fv, fn⟩ ⟨ka, kv, kn⟩ one oth sh ⟨d7, rv, rowN⟩ _ _ := ⟨hfi, hki, hone, hoth, hsh, hro, hS⟩
    clear hfi hki hone hoth hsh hro hS htl9 hrl
    k_steps
    unfold MineStop
    ((rename Fr _ _ _ _ => lF); (rename News _ _ _ _ => lN))
    refine lv_from (s := ⟨_, _, _, _, _⟩) (x := ⟨d3, cv, cn⟩) (a := 2) lF lN hce (by dsimp only; omega) fun nq h18 nw19 hnq enq hsub lF2 lN2 => ?_
    dsimp only at enq
    rw [← enz] at enq
    replace hC := hC.mono hsub
    replace hdl := hsub _ hdl
    clear lF lN hsub hce hnz
    k_steps
    unfold MineStop
    ((rename Fr _ _ _ _ => lF); (rename News _ _ _ _ => lN))
    refine' ff_list (σ := Lv) (ns := nq.ns) (fun z => [(Str.ofString "done", .ref z.a)]) (astOf hC) [] ⟨_, [], []⟩ rfl (hnq.at lF lN) (hnq.off_L lF lN) hnq.1 lF lN ?kf ?kk ?turn ?done
    case kk => kst_all
    case kf => exact ⟨hC, .of_new .nil hdl, rfl⟩
    case turn =>
      clear lF lN
      intro z pre post n tn kU kH kTk own nx I epre hI hfacts kFr kNews
      obtain ⟨hC, hz, ezn⟩ := hfacts
      dsimp only at ezn
      have hzb := piecesL_ok hfb hkb hfz hkz pre [] (by simp)
      rw [← ezn] at hzb
      have hpl5 : pre.length ≤ 4 := by
        have := congrArg List.length epre
        rw [enq, hnz5] at this
        simp at this
        omega
      have hzl : z.ns.length ≤ 36 := by
        have := hzb.2
        simp only [List.length_nil] at this
        omega
      ((have kMark : KstMark := kstMark); (try dsimp only [kstB] at kFr); (try dsimp only at kNews); (try simp only [List.nil_append, List.cons_append, List.append_nil] at kNews); (try k_fold))
      k_steps
      unfold MineStop
      ((rename Fr _ _ _ _ => lF); (rename News _ _ _ _ => lN))
      refine' Mine.use B' lF X' lN T' rfl (bound_call (hz.at lF (fun p hp => lN p (List.mem_append_left _ hp))) hz.1 (by omega)) ?k30 ?k31 ?_
      case k30 => decide
      case k31 => (have hcL' := cLine_is; simp only [units_in1, units_deeper, Around.mark_units, units_caller]; omega)
      rintro r h19 tk19 - hr lF3 lN3
      subst hr
      clear lF lN
      dsimp only
      cases hb2 : bnd z.ns
      all_goals k_steps
      · unfold MineStop
        ((rename Fr _ _ _ _ => lF); (rename News _ _ _ _ => lN))
        have hx : (decide (255 < n) == false) = true := by assumption
        refine lv_add (y := ⟨ka, kv, kn⟩) lF lN (hz.mono fun _ q => List.mem_append_left _ q) (hC.ki.mono fun _ q => List.mem_append_left _ q) (by dsimp only; omega) fun z2 h20 nw20 hz2 ez2 hsub lF2 lN2 => ?_
        dsimp only at ez2
        clear lF lN
        k_steps
        ((rename Fr _ _ _ _ => lF); (rename News _ _ _ _ => lN))
        have hown : ∀ p ∈ own, p ∈ nw20 := fun p hp => hsub p (List.mem_append_right _ hp)
        dsimp only [FfPost]
        refine' ff_end z2 lF lN hown ?a1 ?b1 ?c1
        case b1 => kst_all
        case c1 => kst_same
        case a1 =>
          refine ⟨(hC.mono fun p q => hsub p (List.mem_append_left _ q)).off lN hI hown, hz2.off lN hI hown, ?_⟩
          rw [ez2, piecesL_app, ← ezn, hit_bnd hzb.1, hb2]
          dsimp only
          rw [pick_k hx]
      · unfold MineStop
        ((rename Fr _ _ _ _ => lF); (rename News _ _ _ _ => lN))
        have hx : (decide (255 < n) == false) = false := by assumption
        refine lv_add (y := ⟨fa, fv, fn⟩) lF lN (hz.mono fun _ q => List.mem_append_left _ q) (hC.fi.mono fun _ q => List.mem_append_left _ q) (by dsimp only; omega) fun z2 h20 nw20 hz2 ez2 hsub lF2 lN2 => ?_
        dsimp only at ez2
        clear lF lN
        k_steps
        ((rename Fr _ _ _ _ => lF); (rename News _ _ _ _ => lN))
        have hown : ∀ p ∈ own, p ∈ nw20 := fun p hp => hsub p (List.mem_append_right _ hp)
        dsimp only [FfPost]
        refine' ff_end z2 lF lN hown ?a2 ?b2 ?c2
        case b2 => kst_all
        case c2 => kst_same
        case a2 =>
          refine ⟨(hC.mono fun p q => hsub p (List.mem_append_left _ q)).off lN hI hown, hz2.off lN hI hown, ?_⟩
          rw [ez2, piecesL_app, ← ezn, hit_bnd hzb.1, hb2]
          dsimp only
          rw [pick_f hx]
      · unfold MineStop
        ((rename Fr _ _ _ _ => lF); (rename News _ _ _ _ => lN))
        have hx : (decide (255 < n) == true) = true := by assumption
        refine lv_add (y := ⟨ka, kv, kn⟩) lF lN (hz.mono fun _ q => List.mem_append_left _ q) (hC.ki.mono fun _ q => List.mem_append_left _ q) (by dsimp only; omega) fun z2 h20 nw20 hz2 ez2 hsub lF2 lN2 => ?_
        dsimp only at ez2
        clear lF lN
        k_steps
        ((rename Fr _ _ _ _ => lF); (rename News _ _ _ _ => lN))
        have hown : ∀ p ∈ own, p ∈ nw20 := fun p hp => hsub p (List.mem_append_right _ hp)
        dsimp only [FfPost]
        refine' ff_end z2 lF lN hown ?a3 ?b3 ?c3
        case b3 => kst_all
        case c3 => kst_same
        case a3 =>
          refine ⟨(hC.mono fun p q => hsub p (List.mem_append_left _ q)).off lN hI hown, hz2.off lN hI hown, ?_⟩
          rw [ez2, piecesL_app, ← ezn, hit_bnd hzb.1, hb2]
          dsimp only
          rw [pick_k hx]
      · unfold MineStop
        ((rename Fr _ _ _ _ => lF); (rename News _ _ _ _ => lN))
        have hx : (decide (255 < n) == true) = false := by assumption
        refine lv_add (y := ⟨fa, fv, fn⟩) lF lN (hz.mono fun _ q => List.mem_append_left _ q) (hC.fi.mono fun _ q => List.mem_append_left _ q) (by dsimp only; omega) fun z2 h20 nw20 hz2 ez2 hsub lF2 lN2 => ?_
        dsimp only at ez2
        clear lF lN
        k_steps
        ((rename Fr _ _ _ _ => lF); (rename News _ _ _ _ => lN))
        have hown : ∀ p ∈ own, p ∈ nw20 := fun p hp => hsub p (List.mem_append_right _ hp)
        dsimp only [FfPost]
        refine' ff_end z2 lF lN hown ?a4 ?b4 ?c4
        case b4 => kst_all
        case c4 => kst_same
        case a4 =>
          refine ⟨(hC.mono fun p q => hsub p (List.mem_append_left _ q)).off lN hI hown, hz2.off lN hI hown, ?_⟩
          rw [ez2, piecesL_app, ← ezn, hit_bnd hzb.1, hb2]
          dsimp only
          rw [pick_f hx]
    case done =>
      clear lF lN
      intro z kU kH kTk nx hfacts kFr kNews
      obtain ⟨hC, hz, ezn⟩ := hfacts
      dsimp only at ezn
      k_with "mine comp" => (apply mineStop)
      ((have kMark : KstMark := kstMark); (try dsimp only [kstB] at kFr); (try dsimp only at kNews); (try simp only [List.nil_append, List.cons_append, List.append_nil] at kNews); (try k_fold))
      k_steps
      unfold MineStop
      ((rename Fr _ _ _ _ => lF); (rename News _ _ _ _ => lN))
      have hpq := piecesL_ok hfb hkb hfz hkz nq.ns [] (by simp)
      rw [← ezn] at hpq
      have hnq5 : nq.ns.length = 5 := by rw [enq, hnz5]
      have hzl : z.ns.length ≤ 45 := by
        have := hpq.2
        simp only [List.length_nil] at this
        omega
      refine LCg.ListComp_U (F₀ := lF) (by with_unfolding_all rfl) (by decide) (by rfl) (by decide) (by rfl) ?_
      k_steps
      unfold MineStop
      refine lv_add (y := ⟨fa, fv, fn⟩) lF lN hz hC.fi (by dsimp only; omega) fun z2 h20 nw20 hz2 ez2 hsub lF2 lN2 => ?_
      dsimp only at ez2
      replace hC := hC.mono hsub
      clear lF lN hz hsub
      k_steps
      unfold MineStop
      ((rename Fr _ _ _ _ => lF); (rename News _ _ _ _ => lN))
      have hz2l : z2.ns.length ≤ 48 := by rw [ez2, List.length_append]; omega
      refine lv_add (y := ⟨ka, kv, kn⟩) lF lN hz2 hC.ki (by dsimp only; omega) fun z3 h21 nw21 hz3 ez3 hsub lF2 lN2 => ?_
      dsimp only at ez3
      replace hC := hC.mono hsub
      clear lF lN hz2 hsub
      ((rename Fr _ _ _ _ => lF); (rename News _ _ _ _ => lN))
      have hz3l : z3.ns.length ≤ 60 := by rw [ez3, List.length_append]; omega
      have hz3b : ∀ n ∈ z3.ns, 0 ≤ n ∧ n < 6 := by
        intro n hn
        rw [ez3, ez2] at hn
        rcases List.mem_append.mp hn with hn | hn
        · rcases List.mem_append.mp hn with hn | hn
          · exact hpq.1 n hn
          · exact hfb n hn
        · exact hkb n hn
      refine symb_src (X := z3) lF lN hz3 hC.S hz3b (by omega) fun y22 h22 tk22 nw22 hy22 ey22 hsub lF2 lN2 => ?_
      replace hC := hC.mono hsub
      clear lF lN hz3 hsub
      dsimp only
      k_steps
      unfold MineStop
      ((rename Fr _ _ _ _ => lF); (rename News _ _ _ _ => lN))
      refine tv_tuple lF lN hy22 (by rw [ey22, List.length_map]; omega) fun due h23 nw23 hdue edue hsub lF2 lN2 => ?_
      rw [ey22] at edue
      replace hC := hC.mono hsub
      clear lF lN hy22 ey22 hsub
      dsimp only
      k_steps
      unfold MineStop
      ((rename Fr _ _ _ _ => lF); (rename News _ _ _ _ => lN))
      refine tv_eq lF lN hC.row hdue (by units_room) ?_
      have edr : rowN = due.ns := by rw [hrowN, edue, ez3, ez2, ezn, enq, List.append_assoc]
      rw [decide_eq_true edr]
      k_steps
      unfold MineStop
      ((rename Fr _ _ _ _ => lF); (rename News _ _ _ _ => lN))
      refine tv_add lF lN hC.oth hC.one (by omega) fun zd h24 nw24 hzd ezd hsub lF2 lN2 => ?_
      replace hC := hC.mono hsub
      clear lF lN hsub
      k_steps
      unfold MineStop
      ((rename Fr _ _ _ _ => lF); (rename News _ _ _ _ => lN))
      have hzdl : zd.ns.length ≤ 12 := by rw [ezd, List.length_append]; omega
      have hrwl : rowN.length ≤ 100 := by
        rw [hrowN, List.length_map, ← List.append_assoc]
        rw [enq] at ezn
        rw [← ezn, ← ez2, ← ez3]
        omega
      refine' Mine.use B' lF X' lN T' rfl (cp_tup_call (items := [.ref d7, .ref zd.a]) (nss := [rowN, zd.ns]) ⟨_, (lN _ (.head _)).1, rfl, _, rfl⟩ (rows_two ((hC.row.mono (fun _ q => List.mem_cons_of_mem _ q)).seq lF lN) ((hzd.mono (fun _ q => List.mem_cons_of_mem _ q)).seq lF lN)) (Nat.le_refl 2) (Nat.le_of_ble_eq_true rfl) ?k40) ?k41 ?k42 ?_
      case k40 => intro ns hn; simp at hn; rcases hn with rfl | rfl <;> omega
      case k41 => decide
      case k42 => (have hcL' := cLine_is; simp only [units_in1, units_deeper, Around.mark_units, units_caller]; omega)
      rintro r h25 tk25 - ⟨d25, pv, rfl, hpt, hpi⟩ lF3 lN3
      rw [cp_two, ezd, pA eone eoth hrowN esh (hEq.trans ezc)] at hpi
      obtain ⟨nw25, hp25, hsub, lN4⟩ := tv_get hpt hpi lF3 lN3
      replace hC := hC.mono (fun p q => hsub p (List.mem_cons_of_mem _ q))
      clear lF lN lN3 hsub
      dsimp only
      k_steps
      unfold MineStop
      ((rename Fr _ _ _ _ => lF); (rename News _ _ _ _ => lN))
      refine tv_eq (x := ⟨d25, pv, sh.ns⟩) lF lN hp25 hC.sh (by units_room) ?_
      simp only [decide_true]
      k_steps
  · k_with "mine expr" => (apply mineStop)
    k_with "mine meth" => (apply mineStop)
    k_with "mine app" => (apply mineStop)
    obtain ⟨sa, sb, hT⟩ := pB_tell esh (fun e => hEq (e.trans ezc.symm))
    simp only [hEq, decide_false]
    have hC : Ctx _ _ ⟨fa, fv, fn⟩ ⟨ka, kv, kn⟩ one oth sh ⟨d7, rv, rowN⟩ _ _ := ⟨hfi, hki, hone, hoth, hsh, hro, hS⟩
    clear hfi hki hone hoth hsh hro hS
    k_steps
    unfold MineStop
    ((rename Fr _ _ _ _ => lF); (rename News _ _ _ _ => lN))
    refine lv_from (s := ⟨_, _, _, _, _⟩) (x := ⟨d3, cv, cn⟩) (a := 2) lF lN hce (by dsimp only; omega) fun nq h18 nw19 hnq enq hsub lF2 lN2 => ?_
    dsimp only at enq
    rw [← enz] at enq
    have hnq5 : nq.ns.length = 5 := by rw [enq, hnz5]
    have hnq0 : nq.ns ≠ [] := fun e => by rw [e] at hnq5; cases hnq5
    replace hC := hC.mono hsub
    replace hdl := hsub _ hdl
    replace htl9 := hsub _ htl9
    replace hrl := hsub _ hrl
    replace hce := hce.mono hsub
    clear lF lN
    have hqt := hnq.ne_list (its := []) lF2 lN2 htl9 (fun v hv => nomatch hv) hnq0
    have hqr := hnq.ne_list (its := [.ref d7]) lF2 lN2 hrl (noRefs (ts := []) (last := ⟨d7, rv, rowN⟩)) hnq0
    clear hsub hnz
    k_steps
    unfold MineStop
    ((rename Fr _ _ _ _ => lF); (rename News _ _ _ _ => lN))
    have hrwl : rowN.length ≤ 100 := by
      rw [hrowN, List.length_map, List.length_append, List.length_append]
      have := hpb.2
      simp only [List.length_nil] at this
      omega
    have hT2 : Tell (fn.map symI) (kn.map symI) sh.ns sa sb := by rw [← eone, ← eoth]; exact hT
    have hone0 : one.ns ≠ [] := by rw [eone]; simpa using hfn
    have hoth0 : oth.ns ≠ [] := by rw [eoth]; simpa using hkn
    have hcn0 : cn ≠ [] := fun e => by rw [e] at hn7; cases hn7
    refine' ff_list2 (σ := BSt) (ns := nq.ns) (fun c => [(Str.ofString "done", .ref c.z.a)]) (bstOf hC ⟨d3, cv, cn⟩ lt lr nq.ns) [Str.ofString "left", Str.ofString "is_first", Str.ofString "is_second"] ⟨⟨ld, [], []⟩, 0, [], ⟨d7, rv, rowN⟩, 0⟩ rfl (hnq.at lF lN) (hnq.off_L lF lN) hnq.1 lF lN ?kf ?kk ?turn ?done
    case kk => kst_all
    case kf => exact ⟨⟨hC, .of_new .nil hdl, htl9, hrl, hC.row, (fun r hr => nomatch hr), hce⟩, rfl, hdt, hdr, left_start (by rw [hrowN, enq]), rfl, fun r hr => (nomatch hr), hrwl⟩
    case turn =>
      clear lF lN
      intro c pre post n tn kU kH kTk own nx I epre hI hownA hfacts kFr kNews
      obtain ⟨z, tq, rs, last, rn⟩ := c
      obtain ⟨hL, ezn, hnt, hnr, hleft, hrsl, hrp, hlz⟩ := hfacts
      dsimp only at hL ezn hnt hnr hleft hrsl hrp hlz kFr
      have hzb := piecesL_ok hfb hkb hfz hkz pre [] (by simp)
      rw [← ezn] at hzb
      have hpl5 : pre.length ≤ 4 := by
        have := congrArg List.length epre
        rw [hnq5] at this
        simp at this
        omega
      have hzl : z.ns.length ≤ 36 := by
        have := hzb.2
        simp only [List.length_nil] at this
        omega
      have hlt := left_turn hleft epre
      rw [← ezn] at hlt
      have hln := left_next (f := fn) (k := kn) (sh := sh.ns) epre
      rw [bnd_pick hzb.1] at hlt
      have hpa : piecesL fn kn [] (pre ++ [n]) = z.ns ++ (if decide (255 < n) = !bnd z.ns then fn else kn) := by
        rw [piecesL_app, ← ezn]
        exact congrArg (z.ns ++ ·) (bnd_pick hzb.1)
      obtain ⟨Z, hZe⟩ : ∃ Z, Z = (restL fn kn (piecesL fn kn [] (pre ++ [n])) post ++ (fn ++ kn)).map symI := ⟨_, rfl⟩
      have hZ : sh.ns <+: Z := by rw [hZe]; exact rest_pre hT2 hfn hkn post _
      have hZl : 2 ≤ Z.length - 0 := by
        rw [hZe, List.length_map, List.length_append, List.length_append]
        have h1 := List.length_pos_iff.mpr hfn
        have h2 := List.length_pos_iff.mpr hkn
        omega
      have hZg : one.ns.length + oth.ns.length ≤ Z.length := by
        rw [hZe, eone, eoth]
        simp only [List.length_map, List.length_append]
        omega
      rw [← hZe] at hlt hln
      clear hZe
      ((have kMark : KstMark := kstMark); (try dsimp only [kstB] at kFr); (try dsimp only at kNews); (try simp only [List.nil_append, List.cons_append, List.append_nil] at kNews); (try k_fold))
      replace hL := hL.mono (fun p q => List.mem_append_left own q)
      have hown : ∀ p ∈ own, p ∈ nx ++ own := fun p q => List.mem_append_right nx q
      have hIt := iter_ne kNews hI hown hL.told
      have hIr := iter_ne kNews hI hown hL.rests
      by_cases hx : decide (255 < n) = !bnd z.ns
      · rw [if_pos hx] at hlt hpa
        rw [← eone] at hlt
        have hl1 : last.ns.length = one.ns.length + Z.length := by rw [hlt, List.length_append]
        have hw1 := List.length_pos_iff.mpr hone0
        have hcp1 := hT.is_one hone0 hZ
        rw [← hlt] at hcp1
        k_steps
        unfold MineStop
        ((rename Fr _ _ _ _ => lF); (rename News _ _ _ _ => lN))
        refine rests_last lN hL.rests ?_
        k_steps
        unfold MineStop
        ((rename Fr _ _ _ _ => lF); (rename News _ _ _ _ => lN))
        refine tv_len lF lN hL.last (by omega) fun t40 k40 => ?_
        k_steps
        unfold MineStop
        ((rename Fr _ _ _ _ => lF); (rename News _ _ _ _ => lN))
        refine tv_add lF lN hL.ctx.one hL.ctx.oth (by omega) fun y1 h41 nw41 hy1 ey1 hsub lF2 lN2 => ?_
        replace hL := hL.mono hsub
        replace hown := fun p q => hsub p (hown p q)
        clear lF lN hsub
        k_steps
        unfold MineStop
        ((rename Fr _ _ _ _ => lF); (rename News _ _ _ _ => lN))
        have hy1l : y1.ns.length = one.ns.length + oth.ns.length := by rw [ey1, List.length_append]
        refine tv_len lF lN hy1 (by omega) fun t42 k42 => ?_
        clear hy1
        k_steps
        unfold MineStop
        ((rename Fr _ _ _ _ => lF); (rename News _ _ _ _ => lN))
        refine' Mine.use B' lF X' lN T' rfl iseof_call ?k50 ?k51 ?_
        case k50 => decide
        case k51 => (have hcL' := cLine_is; simp only [units_in1, units_deeper, Around.mark_units, units_caller]; omega)
        rintro r h43 tk43 - hr lF3 lN3
        rw [show (((last.ns.length : Int) - (y1.ns.length : Int)) == 0) = false from by rw [beq_eq_false_iff_ne]; omega] at hr
        subst hr
        clear lF lN
        k_steps
        unfold MineStop
        ((rename Fr _ _ _ _ => lF); (rename News _ _ _ _ => lN))
        refine' Mine.use B' lF X' lN T' rfl iseof_call ?k52 ?k53 ?_
        case k52 => decide
        case k53 => (have hcL' := cLine_is; simp only [units_in1, units_deeper, Around.mark_units, units_caller]; omega)
        rintro r h44 tk44 - hr lF3 lN3
        rw [show ((-((last.ns.length : Int) - (y1.ns.length : Int))) == 0) = false from by rw [beq_eq_false_iff_ne]; omega] at hr
        subst hr
        clear lF lN
        k_steps
        unfold MineStop
        ((rename Fr _ _ _ _ => lF); (rename News _ _ _ _ => lN))
        refine rests_last lN hL.rests ?_
        k_steps
        unfold MineStop
        ((rename Fr _ _ _ _ => lF); (rename News _ _ _ _ => lN))
        refine tv_add lF lN hL.ctx.oth hL.ctx.one (by omega) fun y2 h45 nw45 hy2 ey2 hsub lF2 lN2 => ?_
        replace hL := hL.mono hsub
        replace hown := fun p q => hsub p (hown p q)
        clear lF lN hsub
        k_steps
        unfold MineStop
        ((rename Fr _ _ _ _ => lF); (rename News _ _ _ _ => lN))
        have hy2l : y2.ns.length = oth.ns.length + one.ns.length := by rw [ey2, List.length_append] <;> omega
        refine' Mine.use B' lF X' lN T' rfl (cp_tup_call (items := [.ref last.a, .ref y2.a]) (nss := [last.ns, y2.ns]) ⟨_, (lN _ (.head _)).1, rfl, _, rfl⟩ (rows_two ((hL.last.mono (fun _ q => List.mem_cons_of_mem _ q)).seq lF lN) ((hy2.mono (fun _ q => List.mem_cons_of_mem _ q)).seq lF lN)) (Nat.le_refl 2) (Nat.le_of_ble_eq_true rfl) ?k60) ?k61 ?k62 ?_
        case k60 => intro ns hn; simp at hn; rcases hn with rfl | rfl <;> omega
        case k61 => decide
        case k62 => (have hcL' := cLine_is; simp only [units_in1, units_deeper, Around.mark_units, units_caller]; omega)
        rintro r h46 tk46 - ⟨d46, pv, rfl, hpt, hpi⟩ lF3 lN3
        rw [cp_two, ey2] at hpi
        obtain ⟨nw46, hp46, hsub, lN4⟩ := tv_get hpt hpi lF3 lN3
        clear lN3 hy2 ey2 hy2l
        replace hL := hL.mono (fun p q => hsub p (List.mem_cons_of_mem _ q))
        replace hown := fun p q => hsub p (List.mem_cons_of_mem _ (hown p q))
        clear lF lN hsub
        dsimp only
        k_steps
        unfold MineStop
        ((rename Fr _ _ _ _ => lF); (rename News _ _ _ _ => lN))
        refine tv_eq (x := ⟨d46, pv, _⟩) lF lN hp46 hL.ctx.sh (by units_room) ?_
        rw [show decide (_ = sh.ns) = true from decide_eq_true hcp1.1]
        clear hp46 hpt hpi
        k_steps
        unfold MineStop
        ((rename Fr _ _ _ _ => lF); (rename News _ _ _ _ => lN))
        refine tv_add lF lN hL.ctx.one hL.ctx.oth (by omega) fun y2 h45 nw45 hy2 ey2 hsub lF2 lN2 => ?_
        replace hL := hL.mono hsub
        replace hown := fun p q => hsub p (hown p q)
        clear lF lN hsub
        k_steps
        unfold MineStop
        ((rename Fr _ _ _ _ => lF); (rename News _ _ _ _ => lN))
        refine rests_last lN hL.rests ?_
        k_steps
        unfold MineStop
        ((rename Fr _ _ _ _ => lF); (rename News _ _ _ _ => lN))
        have hy2l : y2.ns.length = oth.ns.length + one.ns.length := by rw [ey2, List.length_append] <;> omega
        refine' Mine.use B' lF X' lN T' rfl (cp_tup_call (items := [.ref y2.a, .ref last.a]) (nss := [y2.ns, last.ns]) ⟨_, (lN _ (.head _)).1, rfl, _, rfl⟩ (rows_two ((hy2.mono (fun _ q => List.mem_cons_of_mem _ q)).seq lF lN) ((hL.last.mono (fun _ q => List.mem_cons_of_mem _ q)).seq lF lN)) (Nat.le_refl 2) (Nat.le_of_ble_eq_true rfl) ?k60) ?k61 ?k62 ?_
        case k60 => intro ns hn; simp at hn; rcases hn with rfl | rfl <;> omega
        case k61 => decide
        case k62 => (have hcL' := cLine_is; simp only [units_in1, units_deeper, Around.mark_units, units_caller]; omega)
        rintro r h46 tk46 - ⟨d46, pv, rfl, hpt, hpi⟩ lF3 lN3
        rw [cp_two, ey2] at hpi
        obtain ⟨nw46, hp46, hsub, lN4⟩ := tv_get hpt hpi lF3 lN3
        clear lN3 hy2 ey2 hy2l
        replace hL := hL.mono (fun p q => hsub p (List.mem_cons_of_mem _ q))
        replace hown := fun p q => hsub p (List.mem_cons_of_mem _ (hown p q))
        clear lF lN hsub
        dsimp only
        k_steps
        unfold MineStop
        ((rename Fr _ _ _ _ => lF); (rename News _ _ _ _ => lN))
        refine tv_eq (x := ⟨d46, pv, _⟩) lF lN hp46 hL.ctx.sh (by units_room) ?_
        rw [show decide (_ = sh.ns) = false from decide_eq_false hcp1.2]
        clear hp46 hpt hpi
        k_steps
        unfold MineStop
        ((rename Fr _ _ _ _ => lF); (rename News _ _ _ _ => lN))
        refine wpAny_Expr_any ?_
        k_steps
        unfold MineStop
        ((rename Fr _ _ _ _ => lF); (rename News _ _ _ _ => lN))
        refine meth_append lN hL.told ?_
        k_steps
        unfold MineStop
        ((rename Fr _ _ _ _ => lF); (rename News _ _ _ _ => lN))
        refine' Mine.use B' lF X' lN T' rfl (bound_call (hL.z.at lF lN) hL.z.1 (by omega)) ?k70 ?k71 ?_
        case k70 => decide
        case k71 => (have hcL' := cLine_is; simp only [units_in1, units_deeper, Around.mark_units, units_caller]; omega)
        rintro r h71 tk71 - hr lF3 lN3
        subst hr
        clear lF lN
        dsimp only
        k_steps
        unfold MineStop
        ((rename Fr _ _ _ _ => lF); (rename News _ _ _ _ => lN))
        rw [show (true != bnd z.ns) = decide (255 < n) from by rw [hx]; cases bnd z.ns <;> rfl]
        refine append_upd lF lN hL.told (fun h72 nw72 enw lF2 lN2 => ?_) (by rw [List.length_map]; omega)
        replace hL := hL.appT (x := .bool (decide (255 < n))) lF lN noBools hfn hkn hcn0 hnt (Ne.symm htr)
        rw [show (pre.map (fun n => Value.bool (decide (255 < n))) ++ [Value.bool (decide (255 < n))]) = (pre ++ [n]).map (fun n => Value.bool (decide (255 < n))) from by simp] at hL enw
        replace hown := own_upd (o := W.listOf ((pre ++ [n]).map (fun n => Value.bool (decide (255 < n)))).toArray (tq + 1)) hown hownA hIt hqt
        rw [← enw] at hL hown
        clear lF lN enw
        k_steps
        unfold MineStop
        ((rename Fr _ _ _ _ => lF); (rename News _ _ _ _ => lN))
        refine lv_add (y := ⟨fa, fv, fn⟩) lF lN hL.z hL.ctx.fi (by dsimp only; omega) fun z2 h73 nw73 hz2 ez2 hsub lF2 lN2 => ?_
        dsimp only at ez2
        have hz20 : z2.ns ≠ [] := by rw [ez2]; exact fun e => hfn (List.append_eq_nil_iff.mp e).2
        replace hL := hL.mono hsub
        replace hown := fun p q => hsub p (hown p q)
        clear lF lN hsub
        ((rename Fr _ _ _ _ => lF); (rename News _ _ _ _ => lN))
        replace hL := hL.done hz2
        have hzt := hz2.ne_list lF lN hL.told noBools hz20
        have hzr := hz2.ne_list lF lN hL.rests noRefs hz20
        clear hz2 hnt hnr hz20
        k_steps
        unfold MineStop
        ((rename Fr _ _ _ _ => lF); (rename News _ _ _ _ => lN))
        refine wpAny_Expr_any ?_
        k_steps
        unfold MineStop
        ((rename Fr _ _ _ _ => lF); (rename News _ _ _ _ => lN))
        refine meth_append lN hL.rests ?_
        k_steps
        unfold MineStop
        ((rename Fr _ _ _ _ => lF); (rename News _ _ _ _ => lN))
        refine rests_last lN hL.rests ?_
        k_steps
        unfold MineStop
        ((rename Fr _ _ _ _ => lF); (rename News _ _ _ _ => lN))
        refine tv_len lF lN hL.ctx.one (by omega) fun t74 k74 => ?_
        k_steps
        unfold MineStop
        ((rename Fr _ _ _ _ => lF); (rename News _ _ _ _ => lN))
        dsimp only
        refine kba_turn (value' := PySem.Expr.Name (PySem.Str.ofString "_") ⟨0, 0, 0, 0⟩) (fun _ => rfl) ?_
        refine tv_from (s := ⟨_, _, _, _, _⟩) (a := one.ns.length) lF lN hL.last (by omega) hw1 (by omega) fun y3 h75 nw75 hy3 ey3 hsub lF2 lN2 => ?_
        replace hL := hL.mono hsub
        replace hown := fun p q => hsub p (hown p q)
        clear lF lN hsub
        have ey4 : y3.ns = Z := by rw [ey3, hlt]; simp
        k_steps
        unfold MineStop
        ((rename Fr _ _ _ _ => lF); (rename News _ _ _ _ => lN))
        refine append_upd lF lN hL.rests (fun h76 nw76 enw lF2 lN2 => ?_) (by simp [refsOf]; omega)
        replace hL := hL.appR lF lN hy3 hfn hkn hcn0 hzr htr
        replace hown := own_upd (o := W.listOf (refsOf rs last ++ [Value.ref y3.a]).toArray (rn + 1)) hown hownA hIr hqr
        rw [← enw] at hL hown
        clear lF lN enw hy3
        k_steps
        ((rename Fr _ _ _ _ => lF); (rename News _ _ _ _ => lN))
        dsimp only [FfPost]
        refine' ff_end (σ := BSt) ⟨z2, tq + 1, rs ++ [last], y3, rn + 1⟩ lF lN hown ?aaf ?bbf ?ccf
        case bbf => kst_all
        case ccf => kst_same
        case aaf =>
          refine ⟨hL.off lN hI hown, by rw [ez2, hpa], hzt, hzr, by dsimp only; rw [ey4]; exact hln, by simp [hrsl], fun r hr => ?_, by dsimp only; rw [ey4]; omega⟩
          rcases List.mem_append.mp hr with hr | hr
          · exact hrp r hr
          · rw [List.mem_singleton.mp hr]
            exact ⟨by rw [hlt]; exact pre_snoc (hT.one hone0 hZ), hlz⟩
      · rw [if_neg hx] at hlt hpa
        rw [← eoth] at hlt
        have hl1 : last.ns.length = oth.ns.length + Z.length := by rw [hlt, List.length_append]
        have hw1 := List.length_pos_iff.mpr hoth0
        have hcp1 := hT.is_oth hoth0 hZ
        rw [← hlt] at hcp1
        k_steps
        unfold MineStop
        ((rename Fr _ _ _ _ => lF); (rename News _ _ _ _ => lN))
        refine rests_last lN hL.rests ?_
        k_steps
        unfold MineStop
        ((rename Fr _ _ _ _ => lF); (rename News _ _ _ _ => lN))
        refine tv_len lF lN hL.last (by omega) fun t40 k40 => ?_
        k_steps
        unfold MineStop
        ((rename Fr _ _ _ _ => lF); (rename News _ _ _ _ => lN))
        refine tv_add lF lN hL.ctx.one hL.ctx.oth (by omega) fun y1 h41 nw41 hy1 ey1 hsub lF2 lN2 => ?_
        replace hL := hL.mono hsub
        replace hown := fun p q => hsub p (hown p q)
        clear lF lN hsub
        k_steps
        unfold MineStop
        ((rename Fr _ _ _ _ => lF); (rename News _ _ _ _ => lN))
        have hy1l : y1.ns.length = one.ns.length + oth.ns.length := by rw [ey1, List.length_append]
        refine tv_len lF lN hy1 (by omega) fun t42 k42 => ?_
        clear hy1
        k_steps
        unfold MineStop
        ((rename Fr _ _ _ _ => lF); (rename News _ _ _ _ => lN))
        refine' Mine.use B' lF X' lN T' rfl iseof_call ?k50 ?k51 ?_
        case k50 => decide
        case k51 => (have hcL' := cLine_is; simp only [units_in1, units_deeper, Around.mark_units, units_caller]; omega)
        rintro r h43 tk43 - hr lF3 lN3
        rw [show (((last.ns.length : Int) - (y1.ns.length : Int)) == 0) = false from by rw [beq_eq_false_iff_ne]; omega] at hr
        subst hr
        clear lF lN
        k_steps
        unfold MineStop
        ((rename Fr _ _ _ _ => lF); (rename News _ _ _ _ => lN))
        refine' Mine.use B' lF X' lN T' rfl iseof_call ?k52 ?k53 ?_
        case k52 => decide
        case k53 => (have hcL' := cLine_is; simp only [units_in1, units_deeper, Around.mark_units, units_caller]; omega)
        rintro r h44 tk44 - hr lF3 lN3
        rw [show ((-((last.ns.length : Int) - (y1.ns.length : Int))) == 0) = false from by rw [beq_eq_false_iff_ne]; omega] at hr
        subst hr
        clear lF lN
        k_steps
        unfold MineStop
        ((rename Fr _ _ _ _ => lF); (rename News _ _ _ _ => lN))
        refine rests_last lN hL.rests ?_
        k_steps
        unfold MineStop
        ((rename Fr _ _ _ _ => lF); (rename News _ _ _ _ => lN))
        refine tv_add lF lN hL.ctx.oth hL.ctx.one (by omega) fun y2 h45 nw45 hy2 ey2 hsub lF2 lN2 => ?_
        replace hL := hL.mono hsub
        replace hown := fun p q => hsub p (hown p q)
        clear lF lN hsub
        k_steps
        unfold MineStop
        ((rename Fr _ _ _ _ => lF); (rename News _ _ _ _ => lN))
        have hy2l : y2.ns.length = oth.ns.length + one.ns.length := by rw [ey2, List.length_append] <;> omega
        refine' Mine.use B' lF X' lN T' rfl (cp_tup_call (items := [.ref last.a, .ref y2.a]) (nss := [last.ns, y2.ns]) ⟨_, (lN _ (.head _)).1, rfl, _, rfl⟩ (rows_two ((hL.last.mono (fun _ q => List.mem_cons_of_mem _ q)).seq lF lN) ((hy2.mono (fun _ q => List.mem_cons_of_mem _ q)).seq lF lN)) (Nat.le_refl 2) (Nat.le_of_ble_eq_true rfl) ?k60) ?k61 ?k62 ?_
        case k60 => intro ns hn; simp at hn; rcases hn with rfl | rfl <;> omega
        case k61 => decide
        case k62 => (have hcL' := cLine_is; simp only [units_in1, units_deeper, Around.mark_units, units_caller]; omega)
        rintro r h46 tk46 - ⟨d46, pv, rfl, hpt, hpi⟩ lF3 lN3
        rw [cp_two, ey2] at hpi
        obtain ⟨nw46, hp46, hsub, lN4⟩ := tv_get hpt hpi lF3 lN3
        clear lN3 hy2 ey2 hy2l
        replace hL := hL.mono (fun p q => hsub p (List.mem_cons_of_mem _ q))
        replace hown := fun p q => hsub p (List.mem_cons_of_mem _ (hown p q))
        clear lF lN hsub
        dsimp only
        k_steps
        unfold MineStop
        ((rename Fr _ _ _ _ => lF); (rename News _ _ _ _ => lN))
        refine tv_eq (x := ⟨d46, pv, _⟩) lF lN hp46 hL.ctx.sh (by units_room) ?_
        rw [show decide (_ = sh.ns) = false from decide_eq_false hcp1.1]
        clear hp46 hpt hpi
        k_steps
        unfold MineStop
        ((rename Fr _ _ _ _ => lF); (rename News _ _ _ _ => lN))
        refine tv_add lF lN hL.ctx.one hL.ctx.oth (by omega) fun y2 h45 nw45 hy2 ey2 hsub lF2 lN2 => ?_
        replace hL := hL.mono hsub
        replace hown := fun p q => hsub p (hown p q)
        clear lF lN hsub
        k_steps
        unfold MineStop
        ((rename Fr _ _ _ _ => lF); (rename News _ _ _ _ => lN))
        refine rests_last lN hL.rests ?_
        k_steps
        unfold MineStop
        ((rename Fr _ _ _ _ => lF); (rename News _ _ _ _ => lN))
        have hy2l : y2.ns.length = oth.ns.length + one.ns.length := by rw [ey2, List.length_append] <;> omega
        refine' Mine.use B' lF X' lN T' rfl (cp_tup_call (items := [.ref y2.a, .ref last.a]) (nss := [y2.ns, last.ns]) ⟨_, (lN _ (.head _)).1, rfl, _, rfl⟩ (rows_two ((hy2.mono (fun _ q => List.mem_cons_of_mem _ q)).seq lF lN) ((hL.last.mono (fun _ q => List.mem_cons_of_mem _ q)).seq lF lN)) (Nat.le_refl 2) (Nat.le_of_ble_eq_true rfl) ?k60) ?k61 ?k62 ?_
        case k60 => intro ns hn; simp at hn; rcases hn with rfl | rfl <;> omega
        case k61 => decide
        case k62 => (have hcL' := cLine_is; simp only [units_in1, units_deeper, Around.mark_units, units_caller]; omega)
        rintro r h46 tk46 - ⟨d46, pv, rfl, hpt, hpi⟩ lF3 lN3
        rw [cp_two, ey2] at hpi
        obtain ⟨nw46, hp46, hsub, lN4⟩ := tv_get hpt hpi lF3 lN3
        clear lN3 hy2 ey2 hy2l
        replace hL := hL.mono (fun p q => hsub p (List.mem_cons_of_mem _ q))
        replace hown := fun p q => hsub p (List.mem_cons_of_mem _ (hown p q))
        clear lF lN hsub
        dsimp only
        k_steps
        unfold MineStop
        ((rename Fr _ _ _ _ => lF); (rename News _ _ _ _ => lN))
        refine tv_eq (x := ⟨d46, pv, _⟩) lF lN hp46 hL.ctx.sh (by units_room) ?_
        rw [show decide (_ = sh.ns) = true from decide_eq_true hcp1.2]
        clear hp46 hpt hpi
        k_steps
        unfold MineStop
        ((rename Fr _ _ _ _ => lF); (rename News _ _ _ _ => lN))
        refine wpAny_Expr_any ?_
        k_steps
        unfold MineStop
        ((rename Fr _ _ _ _ => lF); (rename News _ _ _ _ => lN))
        refine meth_append lN hL.told ?_
        k_steps
        unfold MineStop
        ((rename Fr _ _ _ _ => lF); (rename News _ _ _ _ => lN))
        refine' Mine.use B' lF X' lN T' rfl (bound_call (hL.z.at lF lN) hL.z.1 (by omega)) ?k70 ?k71 ?_
        case k70 => decide
        case k71 => (have hcL' := cLine_is; simp only [units_in1, units_deeper, Around.mark_units, units_caller]; omega)
        rintro r h71 tk71 - hr lF3 lN3
        subst hr
        clear lF lN
        dsimp only
        k_steps
        unfold MineStop
        ((rename Fr _ _ _ _ => lF); (rename News _ _ _ _ => lN))
        rw [show (false != bnd z.ns) = decide (255 < n) from by revert hx; cases decide (255 < n) <;> cases bnd z.ns <;> simp]
        refine append_upd lF lN hL.told (fun h72 nw72 enw lF2 lN2 => ?_) (by rw [List.length_map]; omega)
        replace hL := hL.appT (x := .bool (decide (255 < n))) lF lN noBools hfn hkn hcn0 hnt (Ne.symm htr)
        rw [show (pre.map (fun n => Value.bool (decide (255 < n))) ++ [Value.bool (decide (255 < n))]) = (pre ++ [n]).map (fun n => Value.bool (decide (255 < n))) from by simp] at hL enw
        replace hown := own_upd (o := W.listOf ((pre ++ [n]).map (fun n => Value.bool (decide (255 < n)))).toArray (tq + 1)) hown hownA hIt hqt
        rw [← enw] at hL hown
        clear lF lN enw
        k_steps
        unfold MineStop
        ((rename Fr _ _ _ _ => lF); (rename News _ _ _ _ => lN))
        refine lv_add (y := ⟨ka, kv, kn⟩) lF lN hL.z hL.ctx.ki (by dsimp only; omega) fun z2 h73 nw73 hz2 ez2 hsub lF2 lN2 => ?_
        dsimp only at ez2
        have hz20 : z2.ns ≠ [] := by rw [ez2]; exact fun e => hkn (List.append_eq_nil_iff.mp e).2
        replace hL := hL.mono hsub
        replace hown := fun p q => hsub p (hown p q)
        clear lF lN hsub
        ((rename Fr _ _ _ _ => lF); (rename News _ _ _ _ => lN))
        replace hL := hL.done hz2
        have hzt := hz2.ne_list lF lN hL.told noBools hz20
        have hzr := hz2.ne_list lF lN hL.rests noRefs hz20
        clear hz2 hnt hnr hz20
        k_steps
        unfold MineStop
        ((rename Fr _ _ _ _ => lF); (rename News _ _ _ _ => lN))
        refine wpAny_Expr_any ?_
        k_steps
        unfold MineStop
        ((rename Fr _ _ _ _ => lF); (rename News _ _ _ _ => lN))
        refine meth_append lN hL.rests ?_
        k_steps
        unfold MineStop
        ((rename Fr _ _ _ _ => lF); (rename News _ _ _ _ => lN))
        refine rests_last lN hL.rests ?_
        k_steps
        unfold MineStop
        ((rename Fr _ _ _ _ => lF); (rename News _ _ _ _ => lN))
        refine tv_len lF lN hL.ctx.oth (by omega) fun t74 k74 => ?_
        k_steps
        unfold MineStop
        ((rename Fr _ _ _ _ => lF); (rename News _ _ _ _ => lN))
        dsimp only
        refine kba_turn (value' := PySem.Expr.Name (PySem.Str.ofString "_") ⟨0, 0, 0, 0⟩) (fun _ => rfl) ?_
        refine tv_from (s := ⟨_, _, _, _, _⟩) (a := oth.ns.length) lF lN hL.last (by omega) hw1 (by omega) fun y3 h75 nw75 hy3 ey3 hsub lF2 lN2 => ?_
        replace hL := hL.mono hsub
        replace hown := fun p q => hsub p (hown p q)
        clear lF lN hsub
        have ey4 : y3.ns = Z := by rw [ey3, hlt]; simp
        k_steps
        unfold MineStop
        ((rename Fr _ _ _ _ => lF); (rename News _ _ _ _ => lN))
        refine append_upd lF lN hL.rests (fun h76 nw76 enw lF2 lN2 => ?_) (by simp [refsOf]; omega)
        replace hL := hL.appR lF lN hy3 hfn hkn hcn0 hzr htr
        replace hown := own_upd (o := W.listOf (refsOf rs last ++ [Value.ref y3.a]).toArray (rn + 1)) hown hownA hIr hqr
        rw [← enw] at hL hown
        clear lF lN enw hy3
        k_steps
        ((rename Fr _ _ _ _ => lF); (rename News _ _ _ _ => lN))
        dsimp only [FfPost]
        refine' ff_end (σ := BSt) ⟨z2, tq + 1, rs ++ [last], y3, rn + 1⟩ lF lN hown ?aak ?bbk ?cck
        case bbk => kst_all
        case cck => kst_same
        case aak =>
          refine ⟨hL.off lN hI hown, by rw [ez2, hpa], hzt, hzr, by dsimp only; rw [ey4]; exact hln, by simp [hrsl], fun r hr => ?_, by dsimp only; rw [ey4]; omega⟩
          rcases List.mem_append.mp hr with hr | hr
          · exact hrp r hr
          · rw [List.mem_singleton.mp hr]
            exact ⟨by rw [hlt]; exact pre_snoc (hT.oth hoth0 hZ), hlz⟩
    case done =>
      clear lF lN
      intro c kU kH kTk nx hfacts kFr kNews
      obtain ⟨z, tq, rs, last, rn⟩ := c
      obtain ⟨hL, ezn, hnt, hnr, hleft, hrsl, hrp, hlz⟩ := hfacts
      dsimp only at hL ezn hnt hnr hleft hrsl hrp hlz kFr
      have hle := left_end hleft
      rw [← eone, ← eoth] at hle
      clear hleft ezn
      k_with "mine comp" => (apply mineStop)
      k_with "call type:list" => (apply mineStop)
      ((have kMark : KstMark := kstMark); (try dsimp only [kstB] at kFr); (try dsimp only at kNews); (try simp only [List.nil_append, List.cons_append, List.append_nil] at kNews); (try k_fold))
      k_steps
      unfold MineStop
      ((rename Fr _ _ _ _ => lF); (rename News _ _ _ _ => lN))
      refine rests_last lN hL.rests ?_
      k_steps
      unfold MineStop
      ((rename Fr _ _ _ _ => lF); (rename News _ _ _ _ => lN))
      refine tv_len lF lN hL.last (by omega) fun t40 k40 => ?_
      k_steps
      unfold MineStop
      ((rename Fr _ _ _ _ => lF); (rename News _ _ _ _ => lN))
      refine tv_add lF lN hL.ctx.one hL.ctx.oth (by omega) fun y1 h41 nw41 hy1 ey1 hsub lF2 lN2 => ?_
      replace hL := hL.mono hsub
      clear lF lN hsub
      k_steps
      unfold MineStop
      ((rename Fr _ _ _ _ => lF); (rename News _ _ _ _ => lN))
      have hy1l : y1.ns.length = one.ns.length + oth.ns.length := by rw [ey1, List.length_append]
      have hl1 : last.ns.length = one.ns.length + oth.ns.length := by rw [hle, List.length_append]
      refine tv_len lF lN hy1 (by omega) fun t42 k42 => ?_
      clear hy1
      k_steps
      unfold MineStop
      ((rename Fr _ _ _ _ => lF); (rename News _ _ _ _ => lN))
      refine' Mine.use B' lF X' lN T' rfl iseof_call ?k80 ?k81 ?_
      case k80 => decide
      case k81 => (have hcL' := cLine_is; simp only [units_in1, units_deeper, Around.mark_units, units_caller]; omega)
      rintro r h43 tk43 - hr lF3 lN3
      rw [show (((last.ns.length : Int) - (y1.ns.length : Int)) == 0) = true from by rw [beq_iff_eq]; omega] at hr
      subst hr
      clear lF lN
      k_steps
      unfold MineStop
      ((rename Fr _ _ _ _ => lF); (rename News _ _ _ _ => lN))
      refine rests_last lN hL.rests ?_
      k_steps
      unfold MineStop
      ((rename Fr _ _ _ _ => lF); (rename News _ _ _ _ => lN))
      refine tv_add lF lN hL.ctx.one hL.ctx.oth (by omega) fun y2 h44 nw44 hy2 ey2 hsub lF2 lN2 => ?_
      replace hL := hL.mono hsub
      clear lF lN hsub
      k_steps
      unfold MineStop
      ((rename Fr _ _ _ _ => lF); (rename News _ _ _ _ => lN))
      refine tv_ne lF lN hL.last hy2 (by units_room) ?_
      rw [show decide (last.ns = y2.ns) = true from decide_eq_true (by rw [hle, ey2])]
      clear hy2 ey2
      k_steps
      unfold MineStop
      ((rename Fr _ _ _ _ => lF); (rename News _ _ _ _ => lN))
      refine LCg.ListComp_U (F₀ := lF) (by with_unfolding_all rfl) (by decide) (by rfl) (by decide) (by rfl) ?_
      k_steps
      unfold MineStop
      ((rename Fr _ _ _ _ => lF); (rename News _ _ _ _ => lN))
      refine lv_from (s := ⟨_, _, _, _, _⟩) (x := ⟨d3, cv, cn⟩) (a := 2) lF lN hL.ce (by dsimp only; omega) fun nr h45 nw45 hnr9 enr hsub lF2 lN2 => ?_
      dsimp only at enr
      rw [← enz, ← enq] at enr
      replace hL := hL.mono hsub
      clear lF lN hsub
      ((rename Fr _ _ _ _ => lF); (rename News _ _ _ _ => lN))
      refine bool_src (f := fun n => decide (255 < n)) (X := nr) lF lN hnr9 (by rw [enr, hnq5]; decide) rfl ?tb ?hb
      case tb =>
        clear lF lN
        intro n t C oC m₂ nw h tk E' Q' hC' hm2 F2 N2 hq
        k_steps
        exact hq _
      case hb =>
        intro D h46 tk46 lF2 lN2
        rw [enr] at lN2
        replace hL := hL.mono (sub_news1 lN2)
        have hDm := List.mem_cons_self (a := (D, W.listOf ((nq.ns.map fun n => decide (255 < n)).map Value.bool).toArray nq.ns.length)) (l := nw45)
        have etd : nq.ns.map (fun n => Value.bool (decide (255 < n))) = (nq.ns.map fun n => decide (255 < n)).map Value.bool := by simp
        clear lF lN hnr9
        dsimp only
        k_steps
        unfold MineStop
        ((rename Fr _ _ _ _ => lF); (rename News _ _ _ _ => lN))
        have htd := hL.told
        rw [etd] at htd
        refine eq_bools (bs := nq.ns.map fun n => decide (255 < n)) ⟨_, (lN _ htd).1, rfl, _, rfl⟩ ⟨_, (lN _ hDm).1, rfl, _, rfl⟩ (by units_room) ?_
        clear hDm htd
        k_steps
        unfold MineStop
        ((rename Fr _ _ _ _ => lF); (rename News _ _ _ _ => lN))
        refine LCg.ListComp_U (F₀ := lF) (by with_unfolding_all rfl) (by decide) (by rfl) (by decide) (by rfl) ?_
        k_steps
        unfold MineStop
        ((rename Fr _ _ _ _ => lF); (rename News _ _ _ _ => lN))
        refine tv_add lF lN hL.ctx.oth hL.ctx.one (by omega) fun y5 h47 nw47 hy5 ey5 hsub lF2 lN2 => ?_
        replace hL := hL.mono hsub
        clear lF lN hsub
        k_steps
        unfold MineStop
        ((rename Fr _ _ _ _ => lF); (rename News _ _ _ _ => lN))
        have hrs5 : rs.length = 5 := by rw [hrsl, hnq5]
        have hy5l : y5.ns.length = oth.ns.length + one.ns.length := by rw [ey5, List.length_append]
        refine add_vals (vs := refsOf rs last) (ws := [.ref y5.a]) lF lN (List.mem_cons_of_mem _ hL.rests) (List.mem_cons_self ..) (by simp [refsOf]; omega) fun d48 h48 lF2 lN2 => ?_
        rw [show refsOf rs last ++ [Value.ref y5.a] = (rs ++ [last, y5]).map tref from by simp [refsOf, tref]] at lN2
        replace hL := hL.mono (sub_news2 lN2)
        replace hy5 := hy5.mono (sub_news2 lN2)
        clear lF lN
        ((rename Fr _ _ _ _ => lF); (rename News _ _ _ _ => lN))
        have hall : ∀ t ∈ rs ++ [last, y5], sh.ns <+: t.ns ∧ t.ns.length ≤ 100 := by
          intro t ht
          rcases List.mem_append.mp ht with ht | ht
          · exact hrp t ht
          · rcases List.mem_cons.mp ht with ht | ht
            · rw [ht]
              exact ⟨by rw [hle, esh]; exact lcp2_left _ _, hlz⟩
            · rw [List.mem_singleton.mp ht]
              exact ⟨by rw [ey5, esh]; exact lcp2_right _ _, by omega⟩
        refine lists_src (ts := rs ++ [last, y5]) lF lN (List.mem_cons_self ..) (fun t ht => by
          rcases List.mem_append.mp ht with ht | ht
          · exact hL.rs t ht
          · rcases List.mem_cons.mp ht with ht | ht
            · rw [ht]; exact hL.last
            · rw [List.mem_singleton.mp ht]; exact hy5) (fun t ht => Nat.le_trans (hall t ht).2 (by decide)) (by simp; omega) rfl ?tl ?hlz
        case tl =>
          clear lF lN
          intro t C oC m₂ nw h tk E' Q' hC' hm2 F2 N2 hq
          k_steps
          unfold MineStop
          exact hq
        case hlz =>
          intro ls D2 h49 tk49 nw49 hlsn hls hsub lF2 lN2
          replace hL := (hL.mono hsub).mono (sub_news1 lN2)
          clear lF lN hsub
          dsimp only
          k_steps
          unfold MineStop
          ((rename Fr _ _ _ _ => lF); (rename News _ _ _ _ => lN))
          have ecp : lcp2 (minRow ((rs ++ [last, y5]).map Tv.ns)) (maxRow ((rs ++ [last, y5]).map Tv.ns)) = sh.ns := by
            refine cp_rows (a := last.ns) (b := y5.ns) (fun ns hn => ?_) (List.mem_map_of_mem (by simp)) (List.mem_map_of_mem (by simp)) (by rw [hle, ey5, esh])
            obtain ⟨t, ht, rfl⟩ := List.mem_map.mp hn
            exact (hall t ht).1
          refine' Mine.use B' lF X' lN T' rfl (cp_lst_call (items := ls.map lref) (nss := (rs ++ [last, y5]).map Tv.ns) ⟨_, (lN _ (.head _)).1, rfl, _, rfl⟩ (hlsn ▸ rows_lists lF lN (fun l hl => (hls l hl).mono (fun p q => List.mem_cons_of_mem _ q))) (by simp) (by simp; omega) ?k90) ?k91 ?k92 ?_
          case k90 =>
            intro ns hn
            obtain ⟨t, ht, rfl⟩ := List.mem_map.mp hn
            exact Nat.le_trans (hall t ht).2 (by decide)
          case k91 => decide
          case k92 => (have hcL' := cLine_is; simp only [units_in1, units_deeper, Around.mark_units, units_caller]; omega)
          rintro r h51 tk51 - ⟨d51, pv, rfl, hpt, hpi⟩ lF3 lN3
          rw [ecp] at hpi
          obtain ⟨nw51, hp51, hsub, lN4⟩ := lv_get (d := d51) (vs := pv) hpt hpi lF3 lN3
          replace hL := hL.mono hsub
          clear lF lN lN3 hsub hall hls
          dsimp only
          k_steps
          unfold MineStop
          ((rename Fr _ _ _ _ => lF); (rename News _ _ _ _ => lN))
          have hshl : sh.ns.length ≤ 100 := by
            rw [esh]
            have := (lcp2_left (one.ns ++ oth.ns) (oth.ns ++ one.ns)).length_le
            rw [List.length_append] at this
            omega
          refine tv_list lF lN hL.ctx.sh (by omega) fun d52 k52 h52 lF2 lN2 _ => ?_
          replace hp51 := hp51.mono (sub_news1 lN2)
          have hsi := hL.ctx.sh.1
          clear lF lN
          k_steps
          unfold MineStop
          ((rename Fr _ _ _ _ => lF); (rename News _ _ _ _ => lN))
          refine eq_lists (hp51.at lF lN) hp51.1 ⟨_, (lN _ (.head _)).1, rfl, _, rfl⟩ hsi (by units_room) ?_
          k_steps

end Mine
end

open PySem PySem.W PyProof.Rows
theorem PySem.Challenge.cw_wa0017_01_holds : PySem.Challenge.rw_wa0017_01.Holds := by
  exact Mine.tt
