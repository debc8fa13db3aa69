import PyProof.Rows.All
import Wide.All
import OpenK.AllK
import Wide.FinOn
import PySem.Challenge.RW_eu0028_01
set_option Elab.async false
set_option rowWalk.seconds 0
namespace Mine
open PySem PySem.W PyProof.Rows
def scan : List Nat → Int → Option Nat → Nat → Option Nat
  | [], _, _, _ => none
  | c :: r, d, some m, i => scan r d (if c = m then none else some m) (i + 1)
  | c :: r, d, none, i => if c = 39 ∨ c = 34 then scan r d (some c) (i + 1) else if c = 40 then scan r (d + 1) none (i + 1)
      else if c = 41 then (if d - 1 = 0 then some i else scan r (d - 1) none (i + 1)) else scan r d none (i + 1)
def optV (o : Option Nat) (t : Tok) : Value := match o with
  | some k => .int (k : Int) t
  | none => .none
def qOf (si di : Bool) : Option Nat := if si then some 39 else if di then some 34 else none
def J (text : Str) (R : Option Nat) (d : Int) (si di : Bool) (i : Int) : Prop :=
  (si && di) = false ∧ scan (text.cps.toList.drop i.toNat) d (qOf si di) i.toNat = R
theorem item_at (text : Str) {i : Int} (h0 : 0 ≤ i) (hi : i < (text.length : Int)) :
    ∃ c, text.cps.toList.drop i.toNat = c :: text.cps.toList.drop (i.toNat + 1) ∧ text.cps[i.toNat]? = some c ∧ ∀ k, (Txt.item text i == (⟨#[k]⟩ : Str)) = decide (c = k) := by
  have hl : i.toNat < text.cps.toList.length := by
    have : text.length = text.cps.toList.length := by simp [Str.length]
    omega
  have hc : text.cps[i.toNat]? = some (text.cps.toList[i.toNat]) := by
    rw [← Array.getElem?_toList, List.getElem?_eq_getElem hl]
  refine ⟨text.cps.toList[i.toNat], List.drop_eq_getElem_cons hl, hc, fun k => ?_⟩
  rw [item_meets h0 hc]
  generalize text.cps.toList[i.toNat] = c
  by_cases h : c = k
  · subst h; simp
  · simp [h]
theorem toNat1 {i : Int} (h0 : 0 ≤ i) : (i + 1).toNat = i.toNat + 1 := by omega
theorem toNat2 {i : Int} (h0 : 0 ≤ i) : (i + 2).toNat = i.toNat + 1 + 1 := by omega
theorem q39 : Str.ofString "'" = (⟨#[39]⟩ : Str) := by decide +kernel
theorem q34 : Str.ofString "\"" = (⟨#[34]⟩ : Str) := by decide +kernel
theorem q40 : Str.ofString "(" = (⟨#[40]⟩ : Str) := by decide +kernel
theorem q41 : Str.ofString ")" = (⟨#[41]⟩ : Str) := by decide +kernel
section
variable {text : Str} {R : Option Nat} {d i : Int} {si di : Bool}
theorem j_start {start : Nat} : J text (scan (text.cps.toList.drop start) 0 none start) 0 false false (start : Int) := ⟨rfl, by simp [qOf]⟩
-- in single quotes
theorem j_s2 (h0 : 0 ≤ i) (j : J text R d si di i) (hi : i < (text.length : Int)) (hs : si = true) (h1 : (Txt.item text i == Str.ofString "'") = true)
    (hi2 : i + 1 < (text.length : Int)) (h2 : (Txt.item text (i + 1) == Str.ofString "'") = true) : J text R d si di (i + 2) := by
  subst hs
  obtain ⟨jd, js⟩ := j
  obtain ⟨c, e, -, hk⟩ := item_at text h0 hi
  obtain ⟨c2, e2, -, hk2⟩ := item_at text (i := i + 1) (by omega) hi2
  rw [q39, hk] at h1
  rw [q39, hk2] at h2
  obtain rfl := of_decide_eq_true h1
  obtain rfl := of_decide_eq_true h2
  rw [toNat1 h0] at e2
  refine ⟨jd, ?_⟩
  rw [← js, e, e2, toNat2 h0]
  simp [scan, qOf]
theorem j_s1 (h0 : 0 ≤ i) (j : J text R d si di i) (hi : i < (text.length : Int)) (hs : si = true) (h1 : (Txt.item text i == Str.ofString "'") = true) : J text R d false di (i + 1) := by
  subst hs
  obtain ⟨jd, js⟩ := j
  obtain rfl : di = false := by simpa using jd
  obtain ⟨c, e, -, hk⟩ := item_at text h0 hi
  rw [q39, hk] at h1
  obtain rfl := of_decide_eq_true h1
  refine ⟨rfl, ?_⟩
  rw [← js, e, toNat1 h0]
  simp [scan, qOf]
theorem j_s0 (h0 : 0 ≤ i) (j : J text R d si di i) (hi : i < (text.length : Int)) (hs : si = true) (h1 : (Txt.item text i == Str.ofString "'") = false) : J text R d si di (i + 1) := by
  subst hs
  obtain ⟨jd, js⟩ := j
  obtain ⟨c, e, -, hk⟩ := item_at text h0 hi
  rw [q39, hk] at h1
  have h1 := of_decide_eq_false h1
  refine ⟨jd, ?_⟩
  rw [← js, e, toNat1 h0]
  simp [scan, qOf, h1]
-- in double quotes
theorem j_d2 (h0 : 0 ≤ i) (j : J text R d si di i) (hi : i < (text.length : Int)) (hs : si = false) (hd : di = true) (h1 : (Txt.item text i == Str.ofString "\"") = true)
    (hi2 : i + 1 < (text.length : Int)) (h2 : (Txt.item text (i + 1) == Str.ofString "\"") = true) : J text R d si di (i + 2) := by
  subst hs hd
  obtain ⟨jd, js⟩ := j
  obtain ⟨c, e, -, hk⟩ := item_at text h0 hi
  obtain ⟨c2, e2, -, hk2⟩ := item_at text (i := i + 1) (by omega) hi2
  rw [q34, hk] at h1
  rw [q34, hk2] at h2
  obtain rfl := of_decide_eq_true h1
  obtain rfl := of_decide_eq_true h2
  rw [toNat1 h0] at e2
  refine ⟨jd, ?_⟩
  rw [← js, e, e2, toNat2 h0]
  simp [scan, qOf]
theorem j_d1 (h0 : 0 ≤ i) (j : J text R d si di i) (hi : i < (text.length : Int)) (hs : si = false) (hd : di = true) (h1 : (Txt.item text i == Str.ofString "\"") = true) : J text R d si false (i + 1) := by
  subst hs hd
  obtain ⟨jd, js⟩ := j
  obtain ⟨c, e, -, hk⟩ := item_at text h0 hi
  rw [q34, hk] at h1
  obtain rfl := of_decide_eq_true h1
  refine ⟨rfl, ?_⟩
  rw [← js, e, toNat1 h0]
  simp [scan, qOf]
theorem j_d0 (h0 : 0 ≤ i) (j : J text R d si di i) (hi : i < (text.length : Int)) (hs : si = false) (hd : di = true) (h1 : (Txt.item text i == Str.ofString "\"") = false) : J text R d si di (i + 1) := by
  subst hs hd
  obtain ⟨jd, js⟩ := j
  obtain ⟨c, e, -, hk⟩ := item_at text h0 hi
  rw [q34, hk] at h1
  have h1 := of_decide_eq_false h1
  refine ⟨jd, ?_⟩
  rw [← js, e, toNat1 h0]
  simp [scan, qOf, h1]
-- outside
theorem j_o1 (h0 : 0 ≤ i) (j : J text R d si di i) (hi : i < (text.length : Int)) (hs : si = false) (hd : di = false) (h1 : (Txt.item text i == Str.ofString "'") = true) : J text R d true di (i + 1) := by
  subst hs hd
  obtain ⟨jd, js⟩ := j
  obtain ⟨c, e, -, hk⟩ := item_at text h0 hi
  rw [q39, hk] at h1
  obtain rfl := of_decide_eq_true h1
  refine ⟨rfl, ?_⟩
  rw [← js, e, toNat1 h0]
  simp [scan, qOf]
theorem j_o2 (h0 : 0 ≤ i) (j : J text R d si di i) (hi : i < (text.length : Int)) (hs : si = false) (hd : di = false) (h1 : (Txt.item text i == Str.ofString "\"") = true) : J text R d si true (i + 1) := by
  subst hs hd
  obtain ⟨jd, js⟩ := j
  obtain ⟨c, e, -, hk⟩ := item_at text h0 hi
  rw [q34, hk] at h1
  obtain rfl := of_decide_eq_true h1
  refine ⟨rfl, ?_⟩
  rw [← js, e, toNat1 h0]
  simp [scan, qOf]
theorem j_o3 (h0 : 0 ≤ i) (j : J text R d si di i) (hi : i < (text.length : Int)) (hs : si = false) (hd : di = false) (h1 : (Txt.item text i == Str.ofString "(") = true) : J text R (d + 1) si di (i + 1) := by
  subst hs hd
  obtain ⟨jd, js⟩ := j
  obtain ⟨c, e, -, hk⟩ := item_at text h0 hi
  rw [q40, hk] at h1
  obtain rfl := of_decide_eq_true h1
  refine ⟨rfl, ?_⟩
  rw [← js, e, toNat1 h0]
  simp [scan, qOf]
theorem j_o4 (h0 : 0 ≤ i) (j : J text R d si di i) (hi : i < (text.length : Int)) (hs : si = false) (hd : di = false) (h1 : (Txt.item text i == Str.ofString ")") = true) (hz : d - 1 ≠ 0) : J text R (d - 1) si di (i + 1) := by
  subst hs hd
  obtain ⟨jd, js⟩ := j
  obtain ⟨c, e, -, hk⟩ := item_at text h0 hi
  rw [q41, hk] at h1
  obtain rfl := of_decide_eq_true h1
  refine ⟨rfl, ?_⟩
  rw [← js, e, toNat1 h0]
  simp [scan, qOf, hz]
theorem j_o5 (h0 : 0 ≤ i) (j : J text R d si di i) (hi : i < (text.length : Int)) (hs : si = false) (hd : di = false) (h1 : (Txt.item text i == Str.ofString "'") = false) (h2 : (Txt.item text i == Str.ofString "\"") = false)
    (h3 : (Txt.item text i == Str.ofString "(") = false) (h4 : (Txt.item text i == Str.ofString ")") = false) : J text R d si di (i + 1) := by
  subst hs hd
  obtain ⟨jd, js⟩ := j
  obtain ⟨c, e, -, hk⟩ := item_at text h0 hi
  rw [q39, hk] at h1
  rw [q34, hk] at h2
  rw [q40, hk] at h3
  rw [q41, hk] at h4
  have h1 := of_decide_eq_false h1
  have h2 := of_decide_eq_false h2
  have h3 := of_decide_eq_false h3
  have h4 := of_decide_eq_false h4
  refine ⟨rfl, ?_⟩
  rw [← js, e, toNat1 h0]
  simp [scan, qOf, h1, h2, h3, h4]
theorem j_ret (h0 : 0 ≤ i) (j : J text R d si di i) (hi : i < (text.length : Int)) (hs : si = false) (hd : di = false) (h1 : (Txt.item text i == Str.ofString ")") = true) (hz : d - 1 = 0) (t : Tok) : optV R t = .int i t := by
  subst hs hd
  obtain ⟨jd, js⟩ := j
  obtain ⟨c, e, -, hk⟩ := item_at text h0 hi
  rw [q41, hk] at h1
  obtain rfl := of_decide_eq_true h1
  rw [← js, e]
  simp [scan, qOf, hz, optV]
  omega
theorem j_end (j : J text R d si di i) (hi : ¬ i < (text.length : Int)) (t : Tok) : optV R t = .none := by
  obtain ⟨jd, js⟩ := j
  have : text.cps.toList.drop i.toNat = [] := List.drop_eq_nil_of_le (by
    have : text.length = text.cps.toList.length := by simp [Str.length]
    omega)
  rw [← js, this]
  rfl
end
end Mine
namespace Mine
open PySem PySem.W PyProof.Rows
set_option maxRecDepth 100000
set_option maxHeartbeats 8000000
open_top hd for PySem.Challenge.rw_eu0028_01
#check @Mine.hd
end Mine
namespace Mine
open PySem PySem.W PyProof.Rows
def putP (P : List (Nat × Option Nat)) (k : Nat) (o : Option Nat) : List (Nat × Option Nat) :=
  if P.any (fun e => e.1 = k) then P.map (fun e => if e.1 = k then (e.1, o) else e) else P ++ [(k, o)]
abbrev PSt := List (Nat × Option Nat) × List Nat × Nat
def pstep (st : PSt) (y : Str) : PSt :=
  if (y == Str.ofString "(") = true then (putP st.1 st.2.2 none, st.2.1 ++ [st.2.2], st.2.2 + y.length)
  else if (y == Str.ofString ")") = true ∧ st.2.1 ≠ [] then (putP st.1 (st.2.1.getLastD 0) (some st.2.2), st.2.1.dropLast, st.2.2 + y.length)
  else (st.1, st.2.1, st.2.2 + y.length)
def pairsF (ys : List Str) : PSt := ys.foldl pstep ([], [], 0)
inductive KvRel : List (Int × Value) → List (Nat × Option Nat) → Prop
  | nil : KvRel [] []
  | cons (k : Nat) (o : Option Nat) (t : Tok) {kvs P} : KvRel kvs P → KvRel (((k : Int), optV o t) :: kvs) ((k, o) :: P)
theorem KvRel.length {kvs P} (h : KvRel kvs P) : kvs.length = P.length := by induction h with | nil => rfl | cons _ _ _ _ ih => simp [ih]
theorem KvRel.any {kvs P} (h : KvRel kvs P) (k : Nat) : kvs.any (fun kv => decide (kv.1 = (k : Int))) = P.any (fun e => decide (e.1 = k)) := by
  induction h with
  | nil => rfl
  | cons j o t _ ih => simp only [List.any_cons, ih, Int.ofNat_inj]
theorem KvRel.append {kvs P} (h : KvRel kvs P) (k : Nat) (o : Option Nat) (t : Tok) : KvRel (kvs ++ [((k : Int), optV o t)]) (P ++ [(k, o)]) := by
  induction h with
  | nil => exact .cons k o t .nil
  | cons j o' t' _ ih => exact .cons j o' t' ih
theorem KvRel.map {kvs P} (h : KvRel kvs P) (k : Nat) (o : Option Nat) (t : Tok) :
    KvRel (kvs.map fun kv => if kv.1 = (k : Int) then (kv.1, optV o t) else kv) (P.map fun e => if e.1 = k then (e.1, o) else e) := by
  induction h with
  | nil => exact .nil
  | cons j o' t' _ ih =>
    simp only [List.map_cons, Int.ofNat_inj]
    by_cases e : j = k
    · subst e; simp only [if_true]; exact .cons _ o t ih
    · simp only [if_neg e]; exact .cons j o' t' ih
theorem KvRel.stored {kvs P} (h : KvRel kvs P) (k : Nat) (o : Option Nat) (t : Tok) : KvRel (stored kvs (k : Int) (optV o t)) (putP P k o) := by
  unfold PySem.stored putP
  rw [h.any k]
  split
  · exact h.map k o t
  · exact h.append k o t
theorem stored_len {kvs : List (Int × Value)} {k : Int} {v : Value} : (stored kvs k v).length ≤ kvs.length + 1 := by
  unfold stored
  split
  · simp
  · simp
def PJ (prog : Program) (w : World) (m₀ : Str → Option Value) (lop d lp : Addr) (vs : List Value) (n : Nat) (rest : List (Addr × Obj)) (ys : List Str) (i : Nat) (m : Str → Option Value) (nx : List (Addr × Obj)) : Prop :=
  ∃ (od : Obj) (kvs : List (Int × Value)) (P : List (Nat × Option Nat)) (ovs : List Value) (O : List Nat) (on pl : Nat) (t : Tok) (u : Str → Option Value),
    nx = (lop, listOf ovs.toArray on) :: (d, od) :: (lp, listOf vs.toArray n) :: rest ∧ od.IsDictOf (intKind prog w) kvs ∧ KvRel kvs P ∧ IntsAre ovs (O.map fun k : Nat => (k : Int)) ∧ ovs.length ≤ i ∧ kvs.length ≤ i ∧
    (ys.take i).foldl pstep ([], [], 0) = (P, O, pl) ∧ m = fun z => if z = Str.ofString "piece" then u z else if z = Str.ofString "place" then some (.int (pl : Int) t) else m₀ z
theorem pstep_open {P : List (Nat × Option Nat)} {O : List Nat} {pl : Nat} {y : Str} (h : (y == Str.ofString "(") = true) : pstep (P, O, pl) y = (putP P pl none, O ++ [pl], pl + y.length) := by unfold pstep; rw [if_pos h]
theorem pstep_close {P : List (Nat × Option Nat)} {O : List Nat} {pl : Nat} {y : Str} (h0 : (y == Str.ofString "(") = false) (h : (y == Str.ofString ")") = true) (hO : O ≠ []) : pstep (P, O, pl) y = (putP P (O.getLastD 0) (some pl), O.dropLast, pl + y.length) := by
  unfold pstep; rw [if_neg (by rw [h0]; exact Bool.false_ne_true), if_pos ⟨h, hO⟩]
theorem pstep_none {P : List (Nat × Option Nat)} {O : List Nat} {pl : Nat} {y : Str} (h0 : (y == Str.ofString "(") = false) (h : (y == Str.ofString ")") = true) (hO : O = []) : pstep (P, O, pl) y = (P, O, pl + y.length) := by
  unfold pstep; rw [if_neg (by rw [h0]; exact Bool.false_ne_true), if_neg (fun x => x.2 hO)]
theorem pstep_else {P : List (Nat × Option Nat)} {O : List Nat} {pl : Nat} {y : Str} (h0 : (y == Str.ofString "(") = false) (h : (y == Str.ofString ")") = false) : pstep (P, O, pl) y = (P, O, pl + y.length) := by
  unfold pstep; rw [if_neg (by rw [h0]; exact Bool.false_ne_true), if_neg (fun x => by have := x.1; rw [h] at this; cases this)]
theorem fold_next {ys : List Str} {i : Nat} {y : Str} {st st' : PSt} (hy : ys[i]? = some y) (hf : (ys.take i).foldl pstep ([], [], 0) = st) (hs : pstep st y = st') : (ys.take (i + 1)).foldl pstep ([], [], 0) = st' := by
  rw [List.take_add_one, hy, List.foldl_append, hf]
  exact hs
theorem castLast (O : List Nat) : (O.map fun k : Nat => (k : Int)).getLastD 0 = ((O.getLastD 0 : Nat) : Int) := by
  induction O with
  | nil => rfl
  | cons a r ih =>
    cases r with
    | nil => rfl
    | cons b r' => simpa using ih
theorem castDrop (O : List Nat) : (O.map fun k : Nat => (k : Int)).dropLast = O.dropLast.map fun k : Nat => (k : Int) := List.map_dropLast.symm
theorem castNil {O : List Nat} (h : decide ((O.map fun k : Nat => (k : Int)) = []) = false) : O ≠ [] := by
  rintro rfl; simp at h
theorem castNil' {O : List Nat} (h : decide ((O.map fun k : Nat => (k : Int)) = []) = true) : O = [] := by
  cases O with
  | nil => rfl
  | cons a r => simp at h
theorem castPos {O : List Nat} {us : List Value} (h : decide ((O.map fun k : Nat => (k : Int)) = []) = false) (hi : IntsAre us (O.map fun k : Nat => (k : Int))) : 0 < us.length := by
  have h1 := List.length_pos_iff.mpr (castNil h)
  have h2 := hi.length
  rw [List.length_map] at h2
  omega
end Mine
namespace Mine
open PySem PySem.W PyProof.Rows
def TurnEnd (h₀ : Heap) (L : Addr) (Jn : (Str → Option Value) → List (Addr × Obj) → Prop) (I : Addr) (oI : Obj) (s₁ s₂ : Shared) : Prop :=
  ∃ h' tk m' nx, s₂ = { s₁ with heap := h', toks := tk } ∧ Fr h₀ L h' m' ∧ News h₀ L h' ((I, oI) :: nx) ∧ (∀ p ∈ nx, p.1 ≠ I) ∧ Jn m' nx
def TurnPost (h₀ : Heap) (L : Addr) (Jn : (Str → Option Value) → List (Addr × Obj) → Prop) (I : Addr) (oI : Obj) (s₁ : Shared) (Q : Flow → Shared → Prop) (f : Flow) (s₂ : Shared) : Prop :=
  match f with
  | .ret v => Q (.ret v) s₂
  | .brk => Q .next s₂
  | _ => TurnEnd h₀ L Jn I oI s₁ s₂
theorem turn_end {h₀ : Heap} {L I : Addr} {oI : Obj} {Jn : (Str → Option Value) → List (Addr × Obj) → Prop} {s₁ : Shared} {h' : Heap} {tk : Nat} {m' : Str → Option Value} {all nx : List (Addr × Obj)}
    (F : Fr h₀ L h' m') (N : News h₀ L h' all) (hI : (I, oI) ∈ all) (hs : ∀ p ∈ nx, p ∈ all) (hn : ∀ p ∈ nx, p.1 ≠ I) (hj : Jn m' nx) : TurnEnd h₀ L Jn I oI s₁ { s₁ with heap := h', toks := tk } :=
  ⟨h', tk, m', nx, rfl, F, fun p hp => N p (by rcases List.mem_cons.mp hp with rfl | hp; exact hI; exact hs p hp), hn, hj⟩
section
variable {prog : Program} {w : World} {A : Around} {E : Value → Shared → Prop} {s : Shared} {env : Env} {h₀ : Heap} {x : Str} {body : List Stmt} {Q : Flow → Shared → Prop}
theorem loop_any {I : Addr} {fp : List Addr} {n : Nat} {P : Nat → Value → Prop} {St : Nat → Heap → Prop} {m₀ : Str → Option Value} {news : List (Addr × Obj)} (J : Nat → (Str → Option Value) → List (Addr × Obj) → Prop)
    (W : Walks prog w A I fp [I] n P St) (hLf : env.locals ∉ fp) (hI0 : h₀.get? I = none) (hoff : ∀ p ∈ news, p.1 ≠ I) (hIo : ∀ i h, St i h → ∃ o, h.get? I = some o)
    (hfp : ∀ b ∈ fp, b ≠ I → (∃ o, h₀.get? b = some o) ∨ ∃ o, ∀ i m nx, J i m nx → (b, o) ∈ nx)
    (hst : St 0 s.heap) (F : Fr h₀ env.locals s.heap m₀) (N : News h₀ env.locals s.heap news) (hj : J 0 m₀ news)
    (turn : ∀ i v m₁ nx h tk oI, i < n → P i v → J i m₁ nx → Fr h₀ env.locals h (fun y => if y = x then some v else m₁ y) → News h₀ env.locals h ((I, oI) :: nx) → (∀ p ∈ nx, p.1 ≠ I) →
      wpAny (model prog w) A (execs body env) (TurnPost h₀ env.locals (J (i + 1)) I oI { s with heap := h, toks := tk } Q) E { s with heap := h, toks := tk })
    (done : ∀ m₁ nx h tk, J n m₁ nx → Fr h₀ env.locals h m₁ → News h₀ env.locals h nx → Q .next { s with heap := h, toks := tk }) :
    LoopAtV prog w A h₀ env x body Q E (.ref I) s := by
  refine ⟨I, fp, [I], n, P, St, m₀, news, J, rfl, W, hLf, fun b hb => by rw [List.mem_singleton.mp hb]; exact hI0, fun p hp hm => hoff p hp (List.mem_singleton.mp hm), hst, F, N, hj, ?_, fun h' tk m' nx F' N' _ hJ => done m' nx h' tk hJ F' N'⟩
  rintro i v m₁ nx s₁ own ⟨h, tk, rfl⟩ hi hP hJ hnx hown hget hall hst' F₁ N₁
  obtain ⟨oI, hoI⟩ := hIo _ _ hst'
  have hIf : I ∈ fp := W.sub I (List.mem_singleton.mpr rfl)
  have hIown : (I, oI) ∈ own := hall I hIf hI0 oI hoI
  have hnI : ∀ p ∈ nx, p.1 ≠ I := fun p hp e => hnx p hp (List.mem_singleton.mpr e)
  have N₂ : News h₀ env.locals h ((I, oI) :: nx) := fun p hp => N₁ p (by
    rcases List.mem_cons.mp hp with rfl | hp
    · exact List.mem_append_left _ hIown
    · exact List.mem_append_right _ hp)
  refine wpAny_mono (turn i v m₁ nx h tk oI hi hP hJ F₁ N₂ hnI) (fun f s₂ p => ?_) fun _ _ e => e
  have fin : TurnEnd h₀ env.locals (J (i + 1)) I oI { s with heap := h, toks := tk } s₂ → LoopStepU h₀ env.locals [I] own (J (i + 1)) { s with heap := h, toks := tk } .next s₂ := by
    rintro ⟨h', tk', m', nx', e, F', N', hn', hj'⟩
    refine ⟨rfl, h', tk', m', nx', e, F', fun p hp => ?_, fun p hp hm => hn' p hp (List.mem_singleton.mp hm), hj'⟩
    rcases List.mem_append.mp hp with hp | hp
    · by_cases hpI : p.1 = I
      · have h2 : h.get? p.1 = some p.2 := hget p hp
        rw [hpI, hoI] at h2
        have h3 : p = (I, oI) := Prod.ext hpI (Option.some.inj h2).symm
        rw [h3]; exact N' _ (.head _)
      · rcases hfp p.1 (hown p hp) hpI with ⟨o, ho⟩ | ⟨o, ho⟩
        · have h1 := (N₁ p (List.mem_append_left _ hp)).2.2
          rw [ho] at h1; cases h1
        · have h1 : h.get? p.1 = some o := (N₂ _ (.tail _ (ho i m₁ nx hJ))).1
          have h2 : h.get? p.1 = some p.2 := hget p hp
          rw [h1] at h2
          have h3 : p = (p.1, o) := Prod.ext rfl (Option.some.inj h2).symm
          rw [h3]; exact N' _ (.tail _ (ho _ _ _ hj'))
    · exact N' p (.tail _ hp)
  cases f with
  | ret v => exact .ret p
  | brk => exact .brk p
  | next => exact .next (fin p)
  | cont => exact .cont (fin p)

/-- over a list of the ledger, whatever its items -/
theorem iter_vals {l : Addr} {vs : List Value} {nn : Nat} {m₀ : Str → Option Value} {news : List (Addr × Obj)} (J : Nat → (Str → Option Value) → List (Addr × Obj) → Prop)
    (hh : A.handled = none) (hl : (l, listOf vs.toArray nn) ∈ news) (hJl : ∀ i m nx, J i m nx → (l, listOf vs.toArray nn) ∈ nx) (F : Fr h₀ env.locals s.heap m₀) (N : News h₀ env.locals s.heap news) (hj : J 0 m₀ news)
    (turn : ∀ i v m₁ nx h tk I oI, vs[i]? = some v → J i m₁ nx → Fr h₀ env.locals h (fun y => if y = x then some v else m₁ y) → News h₀ env.locals h ((I, oI) :: nx) → (∀ p ∈ nx, p.1 ≠ I) →
      wpAny (model prog w) A (execs body env) (TurnPost h₀ env.locals (J (i + 1)) I oI { s with heap := h, toks := tk } Q) E { s with heap := h, toks := tk })
    (done : ∀ m₁ nx h tk, J vs.length m₁ nx → Fr h₀ env.locals h m₁ → News h₀ env.locals h nx → Q .next { s with heap := h, toks := tk }) :
    wpAny (model prog w) A (pyIter (.ref l)) (fun it s₂ => LoopAtV prog w A h₀ env x body Q E it s₂) E s := by
  have hol : s.heap.get? l = some (listOf vs.toArray nn) := (N _ hl).1
  have hls : s.heap.IsList l vs.toArray := ⟨_, hol, rfl, nn, rfl⟩
  have hne : l ≠ s.heap.objs.size := Nat.ne_of_lt (Heap.lt_size hol)
  refine wpAny_pyIter_list hls ?_
  refine loop_any (n := vs.toArray.size) J (Walks.list (prog := prog) (w := w) hh s.heap.objs.size l hne vs.toArray) ?_ (next_is_new F) (fun p hp => Nat.ne_of_lt (Heap.lt_size (N p hp).1)) (fun i h st => ?_) ?_
    ⟨⟨_, Heap.get?_push_size _ rfl, rfl, rfl⟩, hls.at fun o e => Heap.get?_push_of_some _ e⟩ (F.push _) (fun p hp => ⟨Heap.get?_push_of_some _ (N p hp).1, (N p hp).2⟩) hj ?_ ?_
  · intro hm
    rcases List.mem_cons.mp hm with e | hm
    · exact absurd F.ns.lt (e ▸ Nat.lt_irrefl _)
    · exact (N _ hl).2.1 ((List.mem_singleton.mp hm).symm)
  · obtain ⟨o, e, _⟩ := st.1; exact ⟨o, e⟩
  · intro b hb hbI
    rcases List.mem_cons.mp hb with e | hb
    · exact absurd e hbI
    · rw [List.mem_singleton.mp hb]; exact .inr ⟨_, hJl⟩
  · intro i v m₁ nx h tk oI hi hP hJ F' N' hn
    exact turn i v m₁ nx h tk _ oI (by simpa using hP) hJ F' N' hn
  · intro m₁ nx h tk hJ F' N'
    exact done m₁ nx h tk (by simpa using hJ) F' N'

/-- over a range by ones -/
theorem iter_rng {r : Addr} {b₀ : Int} {t₀ u₀ v₀ : Tok} {n : Nat} {m₀ : Str → Option Value} {news : List (Addr × Obj)} (J : Nat → (Str → Option Value) → List (Addr × Obj) → Prop)
    (hh : A.handled = none) (hr : IsRange s.heap r 0 b₀ 1 t₀ u₀ v₀) (hsmall : Builtin.Range.small 0 b₀ 1 = true) (hn : Builtin.Range.rangeSize 0 b₀ 1 = (n : Int)) (F : Fr h₀ env.locals s.heap m₀) (N : News h₀ env.locals s.heap news) (hj : J 0 m₀ news)
    (turn : ∀ i v m₁ nx h tk I oI, i < n → J i m₁ nx → Fr h₀ env.locals h (fun y => if y = x then some v else m₁ y) → News h₀ env.locals h ((I, oI) :: nx) → (∀ p ∈ nx, p.1 ≠ I) →
      wpAny (model prog w) A (execs body env) (TurnPost h₀ env.locals (J (i + 1)) I oI { s with heap := h, toks := tk } Q) E { s with heap := h, toks := tk })
    (done : ∀ m₁ nx h tk, J n m₁ nx → Fr h₀ env.locals h m₁ → News h₀ env.locals h nx → Q .next { s with heap := h, toks := tk }) :
    wpAny (model prog w) A (pyIter (.ref r)) (fun it s₂ => LoopAtV prog w A h₀ env x body Q E it s₂) E s := by
  refine wpAny_pyIter_range hr hsmall ?_
  have W : Walks prog w A s.heap.objs.size [s.heap.objs.size] [s.heap.objs.size] n (fun i v => i < n ∧ ∃ t, v = .int (0 + i * 1) t)
      (fun i h => IsRangeIter h s.heap.objs.size (0 + (i : Nat) * 1) ((n : Int) - (i : Nat)) 1) := (Walks.range hh _ 0 1 n).bound
  refine loop_any J W ?_ (next_is_new F) (fun p hp => Nat.ne_of_lt (Heap.lt_size (N p hp).1)) (fun i h st => ⟨_, st⟩) ?_
    (by show IsRangeIter _ _ _ _ _; rw [hn]; simpa using Heap.get?_push_size _ rfl) (F.push _) (fun p hp => ⟨Heap.get?_push_of_some _ (N p hp).1, (N p hp).2⟩) hj ?_ ?_
  · intro hm
    exact absurd F.ns.lt ((List.mem_singleton.mp hm) ▸ Nat.lt_irrefl _)
  · intro b hb hbI
    exact absurd (List.mem_singleton.mp hb) hbI
  · intro i v m₁ nx h tk oI hi _ hJ F' N' hn'
    exact turn i v m₁ nx h tk _ oI hi hJ F' N' hn'
  · exact done
end
end Mine
namespace Mine
open PySem PySem.W PyProof.Rows
set_option maxRecDepth 100000
set_option maxHeartbeats 8000000
theorem fm_bd {b : Int} (a : Int) (h : 0 < b) : 0 ≤ a.fmod b ∧ a.fmod b < b := ⟨Int.fmod_nonneg_of_pos a h, Int.fmod_lt_of_pos a h⟩
local macro_rules | `(tactic| k_all) => `(tactic| assumption)
theorem next_spec (w : World) {mean : ExcName → Option Value} {mg mb : Str → Option Value} (dp un : Nat) (gd : Option (List Code)) (cn : Str) (cs : Scope) (a : Addr) (ccd : Value) (cl : List (Str × Addr)) (outer : List Env) (A₀ : Around) (base h₀ : Heap) (L : Addr) (m : Str → Option Value) (s : Shared) (Q E : Value → Shared → Prop)
    (st l : Addr) (vs : List Value) (ns : List Int) (i x : Int) (ti tx : Tok) (n n' : Nat) (rest : List (Addr × Obj)) (many : Int) (tm : Tok)
    (B : Below A₀ base outer h₀) (F : Fr h₀ L s.heap m) (X : (hd.heap_39 w.params).In h₀)
    (N : News h₀ L s.heap ((st, listOf [Value.ref l, .int i ti, .int x tx].toArray n) :: (l, listOf vs.toArray n') :: rest))
    (T : Top hd.view_39 (looseW hd.view_39 [Str.ofString "find_matching_paren"]) mean mg mb h₀) (hk : cs.kind = .function)
    (hne : (l : Nat) ≠ st) (hrest : ∀ p ∈ rest, p.1 ≠ st) (hi : IntsAre vs ns) (hlen : ns.length ≤ 60)
    (hi0 : 0 ≤ i) (hi1 : i ≤ 60) (hx0 : 0 ≤ x) (hx1 : x < 2147483647) (hm0 : 0 < many) (hm1 : many < 100) (hd : dp + 1 < recursionLimit) (hu : un + 8 < cLine)
    (hret : ∀ (r i' x' : Int) (t ti' tx' : Tok) (h' : Heap) (tk' : Nat), 0 ≤ r → r < many → 0 ≤ i' → i' ≤ 60 → 0 ≤ x' → x' < 2147483647 → Fr h₀ L h' m → 
       News h₀ L h' ((st, listOf [Value.ref l, .int i' ti', .int x' tx'].toArray n) :: (l, listOf vs.toArray n') :: rest) → Q (.int r t) { s with heap := h', toks := tk' }) :
    wpAny (model PySem.Challenge.rw_eu0028_01.row.prog w) (ktrTop dp un gd cn cs L a ccd cl outer) (call (.ref 36) [.ref st, .int many tm]) Q E s := by
  w_top off
  revert X; k_fill; intro X
  refine wpAny_call ?_
  k_dflt cell_enter
  k_steps
  all_goals (refine hret _ _ _ _ _ _ _ _ ?_ ?_ ?_ ?_ ?_ ?_ (by k_asm) (by k_asm))
  all_goals first | exact (fm_bd _ (by omega)).1 | exact (fm_bd _ (by omega)).2 | omega
theorem next_call {w : World} {mean : ExcName → Option Value} {mg mb : Str → Option Value} {dp un : Nat} {gd : Option (List Code)} {cn : Str} {cs : Scope} {a : Addr} {ccd : Value} {cl : List (Str × Addr)} {outer : List Env} {A₀ : Around} {base h₀ : Heap} {L : Addr} {m : Str → Option Value} {s : Shared} {Q E : Value → Shared → Prop}
    {st l : Addr} {vs : List Value} {ns : List Int} {i x : Int} {ti tx : Tok} {n n' : Nat} {news : List (Addr × Obj)} {g : Obj → List (Addr × Obj)} {many : Int} {tm : Tok}
    (B : Below A₀ base outer h₀) (F : Fr h₀ L s.heap m) (X : (hd.heap_39 w.params).In h₀) (N : News h₀ L s.heap news)
    (T : Top hd.view_39 (looseW hd.view_39 [Str.ofString "find_matching_paren"]) mean mg mb h₀) (hk : cs.kind = .function)
    (U : UpdF st (listOf [Value.ref l, .int i ti, .int x tx].toArray n) news g) (hl : (l, listOf vs.toArray n') ∈ news)
    (hne : (l : Nat) ≠ st) (hi : IntsAre vs ns) (hlen : ns.length ≤ 60)
    (hb : 0 ≤ i ∧ i ≤ 60 ∧ 0 ≤ x ∧ x < 2147483647) (hm0 : 0 < many) (hm1 : many < 100) (hd : dp + 1 < recursionLimit) (hu : un + 8 < cLine)
    (hret : ∀ (r i' x' : Int) (t ti' tx' : Tok) (h' : Heap) (tk' : Nat), 0 ≤ r → r < many → (0 ≤ i' ∧ i' ≤ 60 ∧ 0 ≤ x' ∧ x' < 2147483647) → Fr h₀ L h' m → 
       News h₀ L h' (g (listOf [Value.ref l, .int i' ti', .int x' tx'].toArray n)) → Q (.int r t) { s with heap := h', toks := tk' }) :
    wpAny (model PySem.Challenge.rw_eu0028_01.row.prog w) (ktrTop dp un gd cn cs L a ccd cl outer) (call (.ref 36) [.ref st, .int many tm]) Q E s := by
  obtain ⟨pre, post, rfl, hg, h1, h2⟩ := U.split
  have hl' : (l, listOf vs.toArray n') ∈ pre ++ post := by
    rcases List.mem_append.mp hl with h | h
    · exact List.mem_append_left _ h
    · rcases List.mem_cons.mp h with h | h
      · exact absurd (congrArg Prod.fst h) hne
      · exact List.mem_append_right _ h
  refine next_spec w dp un gd cn cs a ccd cl outer A₀ base h₀ L m s Q E st l vs ns i x ti tx n n' (pre ++ post) many tm B F X (fun p hp => N p ?_) T hk hne ?_ hi hlen hb.1 hb.2.1 hb.2.2.1 hb.2.2.2 hm0 hm1 hd hu ?_
  · rcases List.mem_cons.mp hp with rfl | hp
    · exact List.mem_append_right _ (.head _)
    · rcases List.mem_cons.mp hp with rfl | hp
      · exact hl
      · rcases List.mem_append.mp hp with h | h
        · exact List.mem_append_left _ h
        · exact List.mem_append_right _ (.tail _ h)
  · intro p hp
    rcases List.mem_append.mp hp with h | h
    · exact h1 p h
    · exact h2 p h
  · intro r i' x' t ti' tx' h' tk' a1 a2 a3 a4 a5 a6 F' N'
    refine hret r i' x' t ti' tx' h' tk' a1 a2 ⟨a3, a4, a5, a6⟩ F' ?_
    rw [hg]
    intro p hp
    refine N' p ?_
    rcases List.mem_append.mp hp with h | h
    · exact .tail _ (.tail _ (List.mem_append_left _ h))
    · rcases List.mem_cons.mp h with rfl | h
      · exact .head _
      · exact .tail _ (.tail _ (List.mem_append_right _ h))
end Mine
namespace Mine
open PySem PySem.W PyProof.Rows
set_option maxRecDepth 100000
set_option maxHeartbeats 8000000
theorem q_of {Q : Value → Shared → Prop} {v v' : Value} {s : Shared} (h : Q v s) (e : v = v') : Q v' s := e ▸ h
local macro_rules | `(tactic| cell_enter) => `(tactic| (refine' code_def ?k1 ?k2 ?k3 ?k4 ?k5 ?kA ?kF ?kK ?k6 ?k7 ?k8 ?k9 ?kB ?_ ?c2 ?c3 ?c4 ?c5; (case kA => exact rfl); (case kF => exact rfl); (case kK => assumption); (case k1 => k_asm); (case k2 => k_asm); (case k3 => k_asm); (case k4 => k_asm); (case k5 => k_asm); (case k6 => k_is); (case k7 => k_is); (case k8 => ktr_room); (case k9 => first | exact BindsTo.of_eq rfl | exact binds_K (by k_in) rfl (by k_is) rfl rfl rfl); (case c5 => decide); (case kB => exact locs rfl); (case c2 => exact rfl); (case c3 => exact rfl); (case c4 => exact rfl); k_whole; intro g' L' h' FG' F' N' B' X' T'; (try dsimp only); (try k_lift B'); (try k_fold)))
theorem fmp_spec (w : World) {mean : ExcName → Option Value} {mg mb : Str → Option Value} (dp un : Nat) (gd : Option (List Code)) (cn : Str) (cs : Scope) (a : Addr) (ccd : Value) (cl : List (Str × Addr)) (outer : List Env) (A₀ : Around) (base h₀ : Heap) (L : Addr) (m : Str → Option Value) (s : Shared) (Q E : Value → Shared → Prop)
    (news : List (Addr × Obj)) (text : Str) (start : Nat) (t1 t2 : Tok)
    (B : Below A₀ base outer h₀) (F : Fr h₀ L s.heap m) (X : (hd.heap_39 w.params).In h₀) (N : News h₀ L s.heap news)
    (T : Top hd.view_39 (looseW hd.view_39 [Str.ofString "find_matching_paren"]) mean mg mb h₀) (hk : cs.kind = .function)
    (hlen : text.length ≤ 10000) (hst : text.cps[start]? = some 40)
    (hd : dp + 1 < recursionLimit) (hu : un + 8 < cLine)
    (hret : ∀ (t : Tok) (h' : Heap) (tk' : Nat), Fr h₀ L h' m → News h₀ L h' news → Q (optV (scan (text.cps.toList.drop start) 0 none start) t) { s with heap := h', toks := tk' }) :
    wpAny (model PySem.Challenge.rw_eu0028_01.row.prog w) (ktrTop dp un gd cn cs L a ccd cl outer) (call (.ref 22) [.str text t1, .int start t2]) Q E s := by
  w_top off
  revert X; k_fill; intro X
  have hstl : start < text.length := (Array.getElem?_eq_some_iff.mp hst).1
  have hit : (Txt.item text (start : Int) == Str.ofString "(") = true := by
    rw [item_meets (n := 40) (by omega) (by simpa using hst)]; decide
  refine wpAny_call ?_
  k_dflt cell_enter
  k_with "exec While Compare cons nil" => k_while (fun (_ : List Int) d si di i => 0 ≤ i ∧ i ≤ (text.length : Int) ∧ J text (scan (text.cps.toList.drop start) 0 none start) d si di i) (fun (_ : List Int) d si di i => text.length - i.toNat) "depth" "in_single" "in_double" "i"
  k_with "state" => (refine ⟨by omega, by omega, ?_⟩; first
    | exact j_start
    | exact j_s2 (by assumption) (by assumption) (by assumption) (by assumption) (by assumption) (by assumption) (by assumption)
    | exact j_s1 (by assumption) (by assumption) (by assumption) (by assumption) (by assumption)
    | exact j_s0 (by assumption) (by assumption) (by assumption) (by assumption) (by assumption)
    | exact j_d2 (by assumption) (by assumption) (by assumption) (by assumption) (by assumption) (by assumption) (by assumption) (by assumption)
    | exact j_d1 (by assumption) (by assumption) (by assumption) (by assumption) (by assumption) (by assumption)
    | exact j_d0 (by assumption) (by assumption) (by assumption) (by assumption) (by assumption) (by assumption)
    | exact j_o1 (by assumption) (by assumption) (by assumption) (by assumption) (by assumption) (by assumption)
    | exact j_o2 (by assumption) (by assumption) (by assumption) (by assumption) (by assumption) (by assumption)
    | exact j_o3 (by assumption) (by assumption) (by assumption) (by assumption) (by assumption) (by assumption)
    | exact j_o4 (by assumption) (by assumption) (by assumption) (by assumption) (by assumption) (by assumption) (by assumption)
    | exact j_o5 (by assumption) (by assumption) (by assumption) (by assumption) (by assumption) (by assumption) (by assumption) (by assumption) (by assumption))
  k_steps
  all_goals first
    | exact q_of (hret _ _ _ (by k_asm) (by k_asm)) (j_ret (by assumption) (by assumption) (by assumption) (by assumption) (by assumption) (by assumption) (by assumption) _)
    | exact q_of (hret 0 _ _ (by k_asm) (by k_asm)) (j_end (by assumption) (by assumption) _)
theorem fmp_call (w : World) {mean : ExcName → Option Value} {mg mb : Str → Option Value} {dp un : Nat} {gd : Option (List Code)} {cn : Str} {cs : Scope} {a : Addr} {ccd : Value} {cl : List (Str × Addr)} {outer : List Env} {A₀ : Around} {base h₀ : Heap} {L : Addr} {m : Str → Option Value} {s : Shared} {Q E : Value → Shared → Prop}
    {news : List (Addr × Obj)} {text : Str} {p : Int} {t1 t2 : Tok}
    (B : Below A₀ base outer h₀) (F : Fr h₀ L s.heap m) (X : (hd.heap_39 w.params).In h₀) (N : News h₀ L s.heap news)
    (T : Top hd.view_39 (looseW hd.view_39 [Str.ofString "find_matching_paren"]) mean mg mb h₀) (hk : cs.kind = .function)
    (hlen : text.length ≤ 10000) (h0 : 0 ≤ p) (hst : text.cps[p.toNat]? = some 40)
    (hd : dp + 1 < recursionLimit) (hu : un + 8 < cLine)
    (hret : ∀ (t : Tok) (h' : Heap) (tk' : Nat), Fr h₀ L h' m → News h₀ L h' news → Q (optV (scan (text.cps.toList.drop p.toNat) 0 none p.toNat) t) { s with heap := h', toks := tk' }) :
    wpAny (model PySem.Challenge.rw_eu0028_01.row.prog w) (ktrTop dp un gd cn cs L a ccd cl outer) (call (.ref 22) [.str text t1, .int p t2]) Q E s := by
  obtain ⟨n, rfl⟩ := Int.eq_ofNat_of_zero_le h0
  exact fmp_spec w dp un gd cn cs a ccd cl outer A₀ base h₀ L m s Q E news text n t1 t2 B F X N T hk hlen hst hd hu hret
end Mine
namespace Mine
open PySem PySem.W PyProof.Rows
set_option maxRecDepth 100000
set_option maxHeartbeats 2000000
def sopF (text : Str) : Str :=
  if ((Txt.strip text).length : Int) < 2 then text
  else if (Txt.item (Txt.strip text) 0 != Str.ofString "(") = true then text
  else if (Txt.item (Txt.strip text) (-1) != Str.ofString ")") = true then text
  else match scan (List.drop (Int.toNat 0) (Txt.strip text).cps.toList) 0 none (Int.toNat 0) with
    | some k => if (k : Int) = ((Txt.strip text).length : Int) - 1 then Txt.slice (Txt.strip text) (some 1) (some (-1)) else text
    | none => text
section
variable {text : Str}
theorem sop_1 (h : ((Txt.strip text).length : Int) < 2) : sopF text = text := by unfold sopF; rw [if_pos h]
theorem sop_2 (h : ¬ ((Txt.strip text).length : Int) < 2) (h1 : (Txt.item (Txt.strip text) 0 != Str.ofString "(") = true) : sopF text = text := by unfold sopF; rw [if_neg h, if_pos h1]
theorem sop_3 (h : ¬ ((Txt.strip text).length : Int) < 2) (h1 : (Txt.item (Txt.strip text) 0 != Str.ofString "(") = false) (h2 : (Txt.item (Txt.strip text) (-1) != Str.ofString ")") = true) : sopF text = text := by
  unfold sopF; rw [if_neg h, if_neg (by rw [h1]; exact Bool.false_ne_true), if_pos h2]
theorem sop_4 (h : ¬ ((Txt.strip text).length : Int) < 2) (h1 : (Txt.item (Txt.strip text) 0 != Str.ofString "(") = false) (h2 : (Txt.item (Txt.strip text) (-1) != Str.ofString ")") = false)
    (h3 : scan (List.drop (Int.toNat 0) (Txt.strip text).cps.toList) 0 none (Int.toNat 0) = none) : sopF text = text := by
  unfold sopF; rw [if_neg h, if_neg (by rw [h1]; exact Bool.false_ne_true), if_neg (by rw [h2]; exact Bool.false_ne_true), h3]
theorem sop_5 {k : Nat} (h : ¬ ((Txt.strip text).length : Int) < 2) (h1 : (Txt.item (Txt.strip text) 0 != Str.ofString "(") = false) (h2 : (Txt.item (Txt.strip text) (-1) != Str.ofString ")") = false)
    (h3 : scan (List.drop (Int.toNat 0) (Txt.strip text).cps.toList) 0 none (Int.toNat 0) = some k) (h4 : (k : Int) = ((Txt.strip text).length : Int) - 1) : sopF text = Txt.slice (Txt.strip text) (some 1) (some (-1)) := by
  unfold sopF; rw [if_neg h, if_neg (by rw [h1]; exact Bool.false_ne_true), if_neg (by rw [h2]; exact Bool.false_ne_true), h3]; dsimp only; rw [if_pos h4]
theorem sop_6 {k : Nat} (h : ¬ ((Txt.strip text).length : Int) < 2) (h1 : (Txt.item (Txt.strip text) 0 != Str.ofString "(") = false) (h2 : (Txt.item (Txt.strip text) (-1) != Str.ofString ")") = false)
    (h3 : scan (List.drop (Int.toNat 0) (Txt.strip text).cps.toList) 0 none (Int.toNat 0) = some k) (h4 : (k : Int) ≠ ((Txt.strip text).length : Int) - 1) : sopF text = text := by
  unfold sopF; rw [if_neg h, if_neg (by rw [h1]; exact Bool.false_ne_true), if_neg (by rw [h2]; exact Bool.false_ne_true), h3]; dsimp only; rw [if_neg h4]
theorem strV {x y : Str} {t : Tok} (e : x = y) : Value.str x t = Value.str y t := by rw [e]
end
theorem first_paren {x : Str} (h : (Txt.item x 0 != Str.ofString "(") = false) (hl : (0 : Int) < (x.length : Int)) : x.cps[(0 : Int).toNat]? = some 40 := by
  obtain ⟨c, -, hc, hk⟩ := item_at x (i := 0) (by omega) hl
  rw [bne_eq_false_iff_eq, ← beq_iff_eq, q40, hk] at h
  rw [hc, of_decide_eq_true h]
local macro_rules | `(tactic| walk_at "call ref") => `(tactic| (k_here; (with_reducible show wpAny _ _ (call (Value.ref 22) _) _ _ _); k_dflt (refine' fmp_call _ ?k1 ?k2 ?k3 ?k4 ?k5 ?kK ?kl ?k0 ?ks ?kd ?ku ?_; (case k1 => k_asm); (case k2 => k_asm); (case k3 => k_asm); (case k4 => k_asm); (case k5 => k_asm); (case kK => rfl); (case kl => omega); (case k0 => omega); (case ks => exact first_paren (by assumption) (by omega)); (case kd => ktr_room); (case ku => ktr_units); intro t9 h9 tk9 F9 N9; generalize hR : scan _ _ _ _ = R9; cases R9; all_goals (dsimp only [optV]); all_goals (try k_fold))))
theorem sop_spec (w : World) {mean : ExcName → Option Value} {mg mb : Str → Option Value} (dp un : Nat) (gd : Option (List Code)) (cn : Str) (cs : Scope) (a : Addr) (ccd : Value) (cl : List (Str × Addr)) (outer : List Env) (A₀ : Around) (base h₀ : Heap) (L : Addr) (m : Str → Option Value) (s : Shared) (Q E : Value → Shared → Prop)
    (news : List (Addr × Obj)) (text : Str) (t1 : Tok)
    (B : Below A₀ base outer h₀) (F : Fr h₀ L s.heap m) (X : (hd.heap_39 w.params).In h₀) (N : News h₀ L s.heap news)
    (T : Top hd.view_39 (looseW hd.view_39 [Str.ofString "find_matching_paren"]) mean mg mb h₀) (hk : cs.kind = .function)
    (hlen : text.length ≤ 10000)
    (hd : dp + 2 < recursionLimit) (hu : un + 16 < cLine)
    (hret : ∀ (t : Tok) (h' : Heap) (tk' : Nat), Fr h₀ L h' m → News h₀ L h' news → Q (.str (sopF text) t) { s with heap := h', toks := tk' }) :
    wpAny (model PySem.Challenge.rw_eu0028_01.row.prog w) (ktrTop dp un gd cn cs L a ccd cl outer) (call (.ref 29) [.str text t1]) Q E s := by
  w_top off
  revert X; k_fill; intro X
  refine wpAny_call ?_
  k_dflt cell_enter
  k_steps
  all_goals first
    | exact q_of (hret _ _ _ (by k_asm) (by k_asm)) (strV (sop_1 (by assumption)))
    | exact q_of (hret _ _ _ (by k_asm) (by k_asm)) (strV (sop_2 (by assumption) (by assumption)))
    | exact q_of (hret _ _ _ (by k_asm) (by k_asm)) (strV (sop_3 (by assumption) (by assumption) (by assumption)))
    | exact q_of (hret _ _ _ (by k_asm) (by k_asm)) (strV (sop_4 (by assumption) (by assumption) (by assumption) (by assumption)))
    | exact q_of (hret _ _ _ (by k_asm) (by k_asm)) (strV (sop_5 (by assumption) (by assumption) (by assumption) (by assumption) (by assumption)))
    | exact q_of (hret _ _ _ (by k_asm) (by k_asm)) (strV (sop_6 (by assumption) (by assumption) (by assumption) (by assumption) (by assumption)))
end Mine
namespace Mine
open PySem PySem.W PyProof.Rows
set_option maxRecDepth 100000
set_option maxHeartbeats 2000000
section
variable {prog : Program} {w : World} {A : Around} {E : Value → Shared → Prop} {s : Shared} {env : Env} {h₀ : Heap} {body : List Stmt} {Q : Flow → Shared → Prop}
theorem iter_PJ {lop d lp : Addr} {od : Obj} {vs : List Value} {n : Nat} {m₀ : Str → Option Value} {rest : List (Addr × Obj)} (ys : List Str) {t : Tok}
    (hh : A.handled = none) (hys : StrsAre vs ys) (F : Fr h₀ env.locals s.heap m₀) (N : News h₀ env.locals s.heap ((lop, listOf [].toArray 0) :: (d, od) :: (lp, listOf vs.toArray n) :: rest)) (hod : od.IsDictOf (intKind prog w) [])
    (hm : m₀ (Str.ofString "place") = some (.int 0 t))
    (turn : ∀ (i : Nat) (y : Str) (ty : Tok) (h : Heap) (tk : Nat) (I : Addr) (oI od : Obj) (kvs : List (Int × Value)) (P : List (Nat × Option Nat)) (ovs : List Value) (O : List Nat) (on pl : Nat) (t : Tok) (u : Str → Option Value),
      ys[i]? = some y → od.IsDictOf (intKind prog w) kvs → KvRel kvs P → IntsAre ovs (O.map fun k : Nat => (k : Int)) → ovs.length ≤ i → kvs.length ≤ i → (ys.take i).foldl pstep ([], [], 0) = (P, O, pl) →
      Fr h₀ env.locals h (fun z => if z = Str.ofString "piece" then some (.str y ty) else if z = Str.ofString "place" then some (.int (pl : Int) t) else m₀ z) →
      News h₀ env.locals h ((I, oI) :: (lop, listOf ovs.toArray on) :: (d, od) :: (lp, listOf vs.toArray n) :: rest) → (∀ p ∈ (lop, listOf ovs.toArray on) :: (d, od) :: (lp, listOf vs.toArray n) :: rest, p.1 ≠ I) →
      wpAny (model prog w) A (execs body env) (TurnPost h₀ env.locals (PJ prog w m₀ lop d lp vs n rest ys (i + 1)) I oI { s with heap := h, toks := tk } Q) E { s with heap := h, toks := tk })
    (done : ∀ (h : Heap) (tk : Nat) (od : Obj) (kvs : List (Int × Value)) (P : List (Nat × Option Nat)) (ovs : List Value) (O : List Nat) (on pl : Nat) (t : Tok) (u : Str → Option Value),
      od.IsDictOf (intKind prog w) kvs → KvRel kvs P → kvs.length ≤ ys.length → ys.foldl pstep ([], [], 0) = (P, O, pl) →
      Fr h₀ env.locals h (fun z => if z = Str.ofString "piece" then u z else if z = Str.ofString "place" then some (.int (pl : Int) t) else m₀ z) →
      News h₀ env.locals h ((lop, listOf ovs.toArray on) :: (d, od) :: (lp, listOf vs.toArray n) :: rest) → Q .next { s with heap := h, toks := tk }) :
    wpAny (model prog w) A (pyIter (.ref lp)) (fun it s₂ => LoopAtV prog w A h₀ env (Str.ofString "piece") body Q E it s₂) E s := by
  have hlen : vs.length = ys.length := hys.length
  refine iter_vals (PJ prog w m₀ lop d lp vs n rest ys) hh (.tail _ (.tail _ (.head _))) ?_ F N ?_ ?_ ?_
  · rintro i m nx ⟨od, kvs, P, ovs, O, on, pl, t, u, rfl, -⟩
    exact .tail _ (.tail _ (.head _))
  · refine ⟨od, [], [], [], [], 0, 0, t, m₀, rfl, hod, .nil, .nil, by simp, by simp, rfl, ?_⟩
    funext z
    by_cases h1 : z = Str.ofString "piece"
    · rw [if_pos h1]
    · rw [if_neg h1]
      by_cases h2 : z = Str.ofString "place"
      · rw [if_pos h2, h2, hm]; rfl
      · rw [if_neg h2]
  · rintro i v m₁ nx h tk I oI hv ⟨od, kvs, P, ovs, O, on, pl, t, u, rfl, hod, hkv, hov, hO, hkl, hfold, rfl⟩ F1 N1 hI
    have hi : i < ys.length := by
      have := (List.getElem?_eq_some_iff.mp hv).1
      omega
    obtain ⟨ty, hy⟩ := StrsAre.get hys i ys[i] (by simp [hi])
    rw [hv] at hy
    obtain rfl := Option.some.inj hy
    refine turn i ys[i] ty h tk I oI od kvs P ovs O on pl t u (by simp [hi]) hod hkv hov hO hkl hfold ?_ N1 hI
    have e : (fun y => if y = Str.ofString "piece" then some (Value.str ys[i] ty) else (fun z => if z = Str.ofString "piece" then u z else if z = Str.ofString "place" then some (.int (pl : Int) t) else m₀ z) y) =
        fun z => if z = Str.ofString "piece" then some (.str ys[i] ty) else if z = Str.ofString "place" then some (.int (pl : Int) t) else m₀ z := by
      funext z
      by_cases h1 : z = Str.ofString "piece"
      · simp [h1]
      · simp [h1]
    rw [← e]; exact F1
  · rintro m₁ nx h tk ⟨od, kvs, P, ovs, O, on, pl, t, u, rfl, hod, hkv, hov, hO, hkl, hfold, rfl⟩ F1 N1
    rw [hlen, List.take_length] at hfold
    exact done h tk od kvs P ovs O on pl t u hod hkv (by omega) hfold F1 N1
theorem PJ_end {lop d lp I : Addr} {oI od od₀ : Obj} {vs ovs ovs₀ : List Value} {n on on₀ i pl : Nat} {m₀ m' : Str → Option Value} {rest all : List (Addr × Obj)} {ys : List Str} {t : Tok} {kvs : List (Int × Value)} {P : List (Nat × Option Nat)} {O : List Nat} {v : Int} {h' : Heap} {tk : Nat} {L : Addr} {s₁ : Shared}
    (F : Fr h₀ L h' m') (N : News h₀ L h' all) (hI : (I, oI) ∈ all) (h1 : (lop, listOf ovs.toArray on) ∈ all) (h2 : (d, od) ∈ all) (h3 : (lp, listOf vs.toArray n) ∈ all) (h4 : ∀ p ∈ rest, p ∈ all)
    (hn : ∀ p ∈ (lop, listOf ovs₀.toArray on₀) :: (d, od₀) :: (lp, listOf vs.toArray n) :: rest, p.1 ≠ I) (hod : od.IsDictOf (intKind prog w) kvs) (hkv : KvRel kvs P) (hov : IntsAre ovs (O.map fun k : Nat => (k : Int)))
    (hO : ovs.length ≤ i + 1) (hkl : kvs.length ≤ i + 1) (hf : (ys.take (i + 1)).foldl pstep ([], [], 0) = (P, O, pl)) (hm : m' (Str.ofString "place") = some (.int v t)) (hv : v = (pl : Int))
    (hz : ∀ z, z ≠ Str.ofString "piece" → z ≠ Str.ofString "place" → m' z = m₀ z) : TurnEnd h₀ L (PJ prog w m₀ lop d lp vs n rest ys (i + 1)) I oI s₁ { s₁ with heap := h', toks := tk } := by
  subst hv
  refine turn_end (nx := (lop, listOf ovs.toArray on) :: (d, od) :: (lp, listOf vs.toArray n) :: rest) F N hI ?_ ?_ ⟨od, kvs, P, ovs, O, on, pl, t, m', rfl, hod, hkv, hov, hO, hkl, hf, ?_⟩
  · intro p hp
    rcases List.mem_cons.mp hp with rfl | hp
    · exact h1
    rcases List.mem_cons.mp hp with rfl | hp
    · exact h2
    rcases List.mem_cons.mp hp with rfl | hp
    · exact h3
    exact h4 p hp
  · intro p hp
    rcases List.mem_cons.mp hp with rfl | hp
    · exact hn (lop, listOf ovs₀.toArray on₀) (.head _)
    rcases List.mem_cons.mp hp with rfl | hp
    · exact hn (d, od₀) (.tail _ (.head _))
    exact hn p (.tail _ (.tail _ hp))
  · funext z
    by_cases h1 : z = Str.ofString "piece"
    · rw [if_pos h1]
    · rw [if_neg h1]
      by_cases h2 : z = Str.ofString "place"
      · rw [if_pos h2, h2, hm]
      · rw [if_neg h2]; exact hz z h1 h2
end
section
variable {prog : Program} {w : World} {A : Around} {E : Value → Shared → Prop} {s : Shared} {h₀ : Heap} {L D : Addr} {m : Str → Option Value} {news news' : List (Addr × Obj)} {n : Nat}
theorem pop_cast {us : List Value} {O : List Nat} {Q : Value → Shared → Prop} (F : Fr h₀ L s.heap m) (N : News h₀ L s.heap news) (U : Upd D (listOf us.toArray n) (listOf us.dropLast.toArray (n + 1)) news news') (hi : IntsAre us (O.map fun k : Nat => (k : Int))) (hne : 0 < us.length)
    (hz : us.length ≤ sizeLine) (h : ∀ h' t, Fr h₀ L h' m → News h₀ L h' news' → IntsAre us.dropLast (O.dropLast.map fun k : Nat => (k : Int)) → Q (.int ((O.getLastD 0 : Nat) : Int) t) { s with heap := h' }) : wpAny (model prog w) A (call (.builtin "list.pop") [.ref D]) Q E s := by
  refine kpa_pop F N U hi hne hz fun h' t F' N' hI => ?_
  rw [castDrop] at hI
  rw [castLast]
  exact h h' t F' N' hI
end
local macro_rules | `(tactic| k_all) => `(tactic| assumption)
local macro_rules | `(tactic| walk_at "call builtin:list.append") => `(tactic| (k_here; (with_reducible show wpAny _ _ (call (Value.builtin _) [Value.ref _, _]) _ _ _); k_dflt (refine' append_K ?k1 ?k2 ?k3 ?_ ?z; (case k1 => k_asm); (case k2 => k_asm); (case k3 => k_upd); (case z => (rw [List.size_toArray, sizeLine_eq]; omega)); k_whole); intro h' F' N'; (try simp only [List.push_toArray] at N')))
local macro_rules | `(tactic| walk_at "compareOp NotEq ref ref") => `(tactic| (k_here; (with_unfolding_all refine' ne_intsK ?k1 ?k2 ?k3 ?k4 ?k5 ?_; (case k1 => is_list); (case k2 => l_ints); (case k3 => is_list); (case k4 => exact IntsAre.nil); (case k5 => ktr_units); k_whole)))
local macro_rules | `(tactic| walk_at "setItem ref int") => `(tactic| (k_here; k_dflt (refine' kda_set (knd := PySem.intKind _ _) ?F ?N ?U ?d (intKind_is _ _ _ _) ?z ?_; (case F => k_asm); (case N => k_asm); (case U => k_updF); (case d => k_asm); (case z => (rw [sizeLine_eq]; omega))); intro h' o' F' N' hd'; (try dsimp only at N')))
local macro_rules | `(tactic| walk_at "call builtin:list.pop") => `(tactic| (k_here; k_dflt (refine' pop_cast ?F ?N ?U ?i ?l ?z ?_; (case F => k_asm); (case N => k_asm); (case U => k_upd); (case i => k_asm); (case l => exact castPos (by assumption) (by assumption)); (case z => (rw [sizeLine_eq]; omega))); (intro h' t' F' N' hI')))
theorem allNe {d : Addr} : ∀ {l : List (Addr × Obj)}, AllLt d l → ∀ p ∈ l, p.1 ≠ d
  | [], _, _, h => nomatch h
  | q :: r, ⟨h1, h2⟩, p, hp => by
    rcases List.mem_cons.mp hp with rfl | hp
    · exact Nat.ne_of_lt h1
    · exact allNe h2 p hp
theorem allLt' {d : Addr} : ∀ {l : List (Addr × Obj)}, AllLt d l → ∀ p ∈ l, p.1 < d
  | [], _, _, h => nomatch h
  | q :: r, ⟨h1, h2⟩, p, hp => by
    rcases List.mem_cons.mp hp with rfl | hp
    · exact h1
    · exact allLt' h2 p hp
theorem pairs_spec (w : World) {mean : ExcName → Option Value} {mg mb : Str → Option Value} (dp un : Nat) (gd : Option (List Code)) (cn : Str) (cs : Scope) (a : Addr) (ccd : Value) (cl : List (Str × Addr)) (outer : List Env) (A₀ : Around) (base h₀ : Heap) (L : Addr) (m : Str → Option Value) (s : Shared) (Q E : Value → Shared → Prop)
    (rest : List (Addr × Obj)) (lp : Addr) (vs : List Value) (ys : List Str) (n : Nat)
    (B : Below A₀ base outer h₀) (F : Fr h₀ L s.heap m) (X : (hd.heap_39 w.params).In h₀) (N : News h₀ L s.heap ((lp, listOf vs.toArray n) :: rest))
    (T : Top hd.view_39 (looseW hd.view_39 [Str.ofString "find_matching_paren"]) mean mg mb h₀) (hk : cs.kind = .function)
    (hys : StrsAre vs ys)
    (hyl : ys.length ≤ 100) (hyy : ∀ y ∈ ys, y.length ≤ 1000)
    (hd : dp + 2 < recursionLimit) (hu : un + 500 < cLine)
    (hret : ∀ (d : Addr) (od : Obj) (kvs : List (Int × Value)) (h' : Heap) (tk' : Nat), od.IsDictOf (intKind PySem.Challenge.rw_eu0028_01.row.prog w) kvs → KvRel kvs (pairsF ys).1 → kvs.length ≤ ys.length → (d == sysModules) = false → (∀ p ∈ rest, p.1 < d) → lp < d → Fr h₀ L h' m → News h₀ L h' ((d, od) :: (lp, listOf vs.toArray n) :: rest) → Q (.ref d) { s with heap := h', toks := tk' }) :
    wpAny (model PySem.Challenge.rw_eu0028_01.row.prog w) (ktrTop dp un gd cn cs L a ccd cl outer) (call (.ref 43) [.ref lp]) Q E s := by
  w_top off
  revert X; k_fill; intro X
  refine wpAny_call ?_
  k_dflt cell_enter
  iterate 27 (first | (k_unfold; (try dsimp only)) | (k_end; wrow_close) | walk1 | (dsimp only; walk1) | (leave1; (try dsimp only)) | fail "no step")
  rename_i g' L' h1 FG B' X' T' tk0 d h2 od lo hs fs hi fi l1 lop h3 l2 D h4 l3 h5 h6 h7 h8 F' N'
  clear fs hs fi
  (with_unfolding_all refine' For_invVF F' ?k1 ?k2 ?_; (case k1 => exact rfl); (case k2 => exact rfl); k_whole)
  iterate 1 (first | (k_unfold; (try dsimp only)) | (k_end; wrow_close) | walk1 | (dsimp only; walk1) | (leave1; (try dsimp only)) | fail "no step")
  obtain ⟨l1a, l1r⟩ := l1
  obtain ⟨l2a, l2b, l2r⟩ := l2
  have hr1 : ∀ p ∈ rest, p.1 ≠ lop := allNe l2r
  have hr2 : ∀ p ∈ rest, p.1 ≠ d := allNe l1r
  (with_unfolding_all refine' iter_PJ (lop := lop) (d := d) (lp := lp) (od := od) (n := n) (vs := vs) (rest := rest) ys ?k1 hys F' ?k3 hi ?k4 ?_ ?_)
  case k1 => rfl
  case k3 => exact fun p hp => N' p (.tail _ hp)
  case k4 => rfl
  · intro i y ty h tk I oI od kvs P ovs O on pl t u hy hod hkv hov hO hkl hfold F1 N1 hI
    clear N'
    have hil : i < ys.length := (List.getElem?_eq_some_iff.mp hy).1
    have hylen : y.length ≤ 1000 := hyy y (List.mem_of_getElem? hy)
    have hI1 : @Ne Nat lop I := hI _ (.head _)
    have hI2 : @Ne Nat d I := hI _ (.tail _ (.head _))
    have hI3 : @Ne Nat lp I := hI _ (.tail _ (.tail _ (.head _)))
    have hI4 : ∀ p ∈ rest, p.1 ≠ I := fun p hp => hI p (.tail _ (.tail _ (.tail _ hp)))
    try k_fold
    k_steps
    all_goals (show TurnEnd _ _ _ _ _ _ _)
    all_goals first
      | exact PJ_end (O := O ++ [pl]) (by k_asm) (by k_asm) (by k_mem) (by k_mem) (by k_mem) (by k_mem) (by intro p hp; repeat (first | exact hp | refine List.Mem.tail _ ?_)) hI (by assumption) (hkv.stored pl none 0) (by rw [List.map_append]; exact IntsAre.append hov (.cons _ _ .nil)) (by rw [List.length_append]; simp only [List.length_cons, List.length_nil]; omega)
          (Nat.le_trans stored_len (by omega)) (fold_next hy hfold (pstep_open (by assumption))) (by with_unfolding_all rfl) (by omega) (by intro z h1 h2; simp only [if_neg h1, if_neg h2])
      | exact PJ_end (O := O.dropLast) (by k_asm) (by k_asm) (by k_mem) (by k_mem) (by k_mem) (by k_mem) (by intro p hp; repeat (first | exact hp | refine List.Mem.tail _ ?_)) hI (by assumption) (hkv.stored (O.getLastD 0) (some pl) t) (by assumption) (by rw [List.length_dropLast]; omega)
          (Nat.le_trans stored_len (by omega)) (fold_next hy hfold (pstep_close (by assumption) (by assumption) (castNil (by assumption)))) (by with_unfolding_all rfl) (by omega) (by intro z h1 h2; simp only [if_neg h1, if_neg h2])
      | exact PJ_end (O := O) (by k_asm) (by k_asm) (by k_mem) (by k_mem) (by k_mem) (by k_mem) (by intro p hp; repeat (first | exact hp | refine List.Mem.tail _ ?_)) hI (by assumption) hkv hov (by omega) (by omega)
          (fold_next hy hfold (pstep_none (by assumption) (by assumption) (castNil' (by assumption)))) (by with_unfolding_all rfl) (by omega) (by intro z h1 h2; simp only [if_neg h1, if_neg h2])
      | exact PJ_end (O := O) (by k_asm) (by k_asm) (by k_mem) (by k_mem) (by k_mem) (by k_mem) (by intro p hp; repeat (first | exact hp | refine List.Mem.tail _ ?_)) hI (by assumption) hkv hov (by omega) (by omega)
          (fold_next hy hfold (pstep_else (by assumption) (by assumption))) (by with_unfolding_all rfl) (by omega) (by intro z h1 h2; simp only [if_neg h1, if_neg h2])
  · intro h tk od kvs P ovs O on pl t u hod hkv hkl hfold F1 N1
    clear N'
    k_steps
    have hP : (pairsF ys).1 = P := by unfold pairsF; rw [hfold]
    rename_i kF kN _ _
    exact hret d od kvs _ _ hod (hP ▸ hkv) hkl lo (fun p hp => allLt' l1r p hp) l1a (by k_asm) (fun p hp => kN p (.tail _ hp))
end Mine
namespace Mine
open PySem PySem.W PyProof.Rows
def dbl (mk : Nat) (cs : List Nat) : List Nat := cs.flatMap fun c => if c = mk then [c, c] else [c]
inductive Good : Str → Prop
  | opens : Good (Str.ofString "(")
  | closes : Good (Str.ofString ")")
  | plain {y : Str} (h : ∀ c ∈ y.cps.toList, c ≠ 39 ∧ c ≠ 34 ∧ c ≠ 40 ∧ c ≠ 41) : Good y
  | quoted {y : Str} (mk : Nat) (body : List Nat) (hm : mk = 39 ∨ mk = 34) (h : y.cps.toList = mk :: (dbl mk body ++ [mk])) : Good y
def LJ (m₀ : Str → Option Value) (cS cM cI cT st l0 pc : Addr) (oS oT : Obj) (ws : List Value) (n0 : Nat) (i : Nat) (m : Str → Option Value) (nx : List (Addr × Obj)) : Prop :=
  ∃ (i' x' : Int) (ti tx : Tok) (nst on : Nat) (pvs : List Value) (ps : List Str) (oM oI : Obj) (cm ci : Option Value) (u : Str → Option Value),
    nx = [(pc, listOf pvs.toArray on), (st, listOf [Value.ref l0, .int i' ti, .int x' tx].toArray nst), (l0, listOf ws.toArray n0), (cT, oT), (cI, oI), (cM, oM), (cS, oS)] ∧
    (0 ≤ i' ∧ i' ≤ 60 ∧ 0 ≤ x' ∧ x' < 2147483647) ∧ oM.data = .cell cm ∧ oI.data = .cell ci ∧ StrsAre pvs ps ∧ ps.length ≤ i ∧ (∀ y ∈ ps, Good y ∧ y.length ≤ 100) ∧
    m = fun z => if z = Str.ofString "_" then u z else if z = Str.ofString "kind" then u z else if z = Str.ofString "body" then u z else m₀ z
section
variable {prog : Program} {w : World} {A : Around} {E : Value → Shared → Prop} {s : Shared} {env : Env} {h₀ : Heap} {body : List Stmt} {Q : Flow → Shared → Prop}
theorem iter_LJ {cS cM cI cT st l0 pc r : Addr} {oS oT oM oI : Obj} {cm ci : Option Value} {ws : List Value} {n0 nst on : Nat} {i₀ x₀ r₀ : Int} {ti tx t₀ u₀ v₀ : Tok} {m₀ : Str → Option Value} {news : List (Addr × Obj)} {L : Addr} (hLe : env.locals = L)
    (hh : A.handled = none) (hr : IsRange s.heap r 0 r₀ 1 t₀ u₀ v₀) (h0 : 0 ≤ r₀) (h1 : r₀ < 13) (F : Fr h₀ L s.heap m₀) (N : News h₀ L s.heap news)
    (hnw : ∀ p ∈ [(pc, listOf [].toArray on), (st, listOf [Value.ref l0, .int i₀ ti, .int x₀ tx].toArray nst), (l0, listOf ws.toArray n0), (cT, oT), (cI, oI), (cM, oM), (cS, oS)], p ∈ news)
    (hb : 0 ≤ i₀ ∧ i₀ ≤ 60 ∧ 0 ≤ x₀ ∧ x₀ < 2147483647) (hM : oM.data = .cell cm) (hI : oI.data = .cell ci)
    (turn : ∀ (i : Nat) (v : Value) (h : Heap) (tk : Nat) (I : Addr) (oIt : Obj) (i' x' : Int) (ti tx : Tok) (nst on : Nat) (pvs : List Value) (ps : List Str) (oM oI : Obj) (cm ci : Option Value) (u : Str → Option Value),
      i < 13 → (0 ≤ i' ∧ i' ≤ 60 ∧ 0 ≤ x' ∧ x' < 2147483647) → oM.data = .cell cm → oI.data = .cell ci → StrsAre pvs ps → ps.length ≤ i → (∀ y ∈ ps, Good y ∧ y.length ≤ 100) →
      Fr h₀ L h (fun z => if z = Str.ofString "_" then some v else if z = Str.ofString "kind" then u z else if z = Str.ofString "body" then u z else m₀ z) →
      News h₀ L h [(I, oIt), (pc, listOf pvs.toArray on), (st, listOf [Value.ref l0, .int i' ti, .int x' tx].toArray nst), (l0, listOf ws.toArray n0), (cT, oT), (cI, oI), (cM, oM), (cS, oS)] →
      (@Ne Nat pc I ∧ @Ne Nat st I ∧ @Ne Nat l0 I ∧ @Ne Nat cT I ∧ @Ne Nat cI I ∧ @Ne Nat cM I ∧ @Ne Nat cS I) →
      wpAny (model prog w) A (execs body env) (TurnPost h₀ L (LJ m₀ cS cM cI cT st l0 pc oS oT ws n0 (i + 1)) I oIt { s with heap := h, toks := tk } Q) E { s with heap := h, toks := tk })
    (done : ∀ (h : Heap) (tk : Nat) (i' x' : Int) (ti tx : Tok) (nst on : Nat) (pvs : List Value) (ps : List Str) (oM oI : Obj) (cm ci : Option Value) (u : Str → Option Value),
      (0 ≤ i' ∧ i' ≤ 60 ∧ 0 ≤ x' ∧ x' < 2147483647) → oM.data = .cell cm → oI.data = .cell ci → StrsAre pvs ps → ps.length ≤ 13 → (∀ y ∈ ps, Good y ∧ y.length ≤ 100) →
      Fr h₀ L h (fun z => if z = Str.ofString "_" then u z else if z = Str.ofString "kind" then u z else if z = Str.ofString "body" then u z else m₀ z) →
      News h₀ L h [(pc, listOf pvs.toArray on), (st, listOf [Value.ref l0, .int i' ti, .int x' tx].toArray nst), (l0, listOf ws.toArray n0), (cT, oT), (cI, oI), (cM, oM), (cS, oS)] → Q .next { s with heap := h, toks := tk }) :
    wpAny (model prog w) A (pyIter (.ref r)) (fun it s₂ => LoopAtV prog w A h₀ env (Str.ofString "_") body Q E it s₂) E s := by
  subst hLe
  obtain ⟨n, rfl⟩ := Int.eq_ofNat_of_zero_le h0
  refine iter_rng (LJ m₀ cS cM cI cT st l0 pc oS oT ws n0) (n := n) hh hr (small_one (by omega) (by omega) (by omega) (by omega)) ?_ F (fun p hp => N p (hnw p hp)) ?_ ?_ ?_
  · have := rangeSize_nat 0 n
    simpa using this
  · refine ⟨i₀, x₀, ti, tx, nst, on, [], [], oM, oI, cm, ci, m₀, rfl, hb, hM, hI, .nil, by simp, fun _ h => (nomatch h), ?_⟩
    funext z
    split
    · rfl
    split
    · rfl
    split
    · rfl
    · rfl
  · rintro i v m₁ nx h tk I oIt hi ⟨i', x', ti, tx, nst, on, pvs, ps, oM, oI, cm, ci, u, rfl, hb, hM, hI, hps, hpl, hg, rfl⟩ F1 N1 hne
    refine turn i v h tk I oIt i' x' ti tx nst on pvs ps oM oI cm ci u (by omega) hb hM hI hps hpl hg ?_ N1 ?_
    · have e : (fun y => if y = Str.ofString "_" then some v else (fun z => if z = Str.ofString "_" then u z else if z = Str.ofString "kind" then u z else if z = Str.ofString "body" then u z else m₀ z) y) =
          fun z => if z = Str.ofString "_" then some v else if z = Str.ofString "kind" then u z else if z = Str.ofString "body" then u z else m₀ z := by
        funext z
        by_cases h1 : z = Str.ofString "_"
        · simp [h1]
        · simp [h1]
      rw [← e]; exact F1
    · exact ⟨hne _ (.head _), hne _ (.tail _ (.head _)), hne _ (.tail _ (.tail _ (.head _))), hne _ (.tail _ (.tail _ (.tail _ (.head _)))), hne _ (.tail _ (.tail _ (.tail _ (.tail _ (.head _))))),
        hne _ (.tail _ (.tail _ (.tail _ (.tail _ (.tail _ (.head _)))))), hne _ (.tail _ (.tail _ (.tail _ (.tail _ (.tail _ (.tail _ (.head _))))))) ⟩
  · rintro m₁ nx h tk ⟨i', x', ti, tx, nst, on, pvs, ps, oM, oI, cm, ci, u, rfl, hb, hM, hI, hps, hpl, hg, rfl⟩ F1 N1
    exact done h tk i' x' ti tx nst on pvs ps oM oI cm ci u hb hM hI hps (by omega) hg F1 N1
theorem LJ_end {cS cM cI cT st l0 pc I : Addr} {oS oT oM oI oIt : Obj} {cm ci : Option Value} {ws : List Value} {n0 nst on i : Nat} {i' x' : Int} {ti tx : Tok} {m₀ m' : Str → Option Value} {all : List (Addr × Obj)} {pvs : List Value} {ps : List Str} {h' : Heap} {tk : Nat} {L : Addr} {s₁ : Shared}
    (F : Fr h₀ L h' m') (N : News h₀ L h' all) (hIt : (I, oIt) ∈ all) (h1 : (pc, listOf pvs.toArray on) ∈ all) (h2 : (st, listOf [Value.ref l0, .int i' ti, .int x' tx].toArray nst) ∈ all) (h3 : (l0, listOf ws.toArray n0) ∈ all) (h4 : (cT, oT) ∈ all)
    (h5 : (cI, oI) ∈ all) (h6 : (cM, oM) ∈ all) (h7 : (cS, oS) ∈ all) (hn : @Ne Nat pc I ∧ @Ne Nat st I ∧ @Ne Nat l0 I ∧ @Ne Nat cT I ∧ @Ne Nat cI I ∧ @Ne Nat cM I ∧ @Ne Nat cS I)
    (hb : 0 ≤ i' ∧ i' ≤ 60 ∧ 0 ≤ x' ∧ x' < 2147483647) (hM : oM.data = .cell cm) (hI : oI.data = .cell ci) (hps : StrsAre pvs ps) (hpl : ps.length ≤ i + 1) (hg : ∀ y ∈ ps, Good y ∧ y.length ≤ 100)
    (hz : ∀ z, z ≠ Str.ofString "_" → z ≠ Str.ofString "kind" → z ≠ Str.ofString "body" → m' z = m₀ z) : TurnEnd h₀ L (LJ m₀ cS cM cI cT st l0 pc oS oT ws n0 (i + 1)) I oIt s₁ { s₁ with heap := h', toks := tk } := by
  refine turn_end (nx := [(pc, listOf pvs.toArray on), (st, listOf [Value.ref l0, .int i' ti, .int x' tx].toArray nst), (l0, listOf ws.toArray n0), (cT, oT), (cI, oI), (cM, oM), (cS, oS)]) F N hIt ?_ ?_ ⟨i', x', ti, tx, nst, on, pvs, ps, oM, oI, cm, ci, m', rfl, hb, hM, hI, hps, hpl, hg, ?_⟩
  · intro p hp
    simp only [List.mem_cons, List.not_mem_nil, or_false] at hp
    rcases hp with rfl | rfl | rfl | rfl | rfl | rfl | rfl <;> assumption
  · intro p hp
    simp only [List.mem_cons, List.not_mem_nil, or_false] at hp
    obtain ⟨n1, n2, n3, n4, n5, n6, n7⟩ := hn
    rcases hp with rfl | rfl | rfl | rfl | rfl | rfl | rfl <;> assumption
  · funext z
    split
    · rfl
    split
    · rfl
    split
    · rfl
    · rename_i a b c; exact hz z a b c
end
def CJ (pre post : List (Addr × Obj)) (st l0 : Addr) (i : Nat) (ys : List Value) (nw : List (Addr × Obj)) : Prop :=
  ∃ (i' x' : Int) (ti tx : Tok) (nst : Nat) (zs : List Str), nw = pre ++ (st, listOf [Value.ref l0, .int i' ti, .int x' tx].toArray nst) :: post ∧ (0 ≤ i' ∧ i' ≤ 60 ∧ 0 ≤ x' ∧ x' < 2147483647) ∧ StrsAre ys zs ∧ zs.length = i ∧ ∀ z ∈ zs, z.length ≤ 2
def menu8 : List Str := [Str.ofString "(", Str.ofString ")", Str.ofString "", Str.ofString "a)", Str.ofString "''", Str.ofString "\"\"", Str.ofString " ", Str.ofString "\\"]
theorem len_menu8 {r : Int} (h0 : 0 ≤ r) (h1 : r < 8) : (menu8.getD r.toNat Str.empty).length ≤ 2 := by
  have h : ∀ y ∈ menu8, y.length ≤ 2 := by decide +kernel
  refine h _ ?_
  have hl : r.toNat < menu8.length := by show r.toNat < 8; omega
  rw [List.getD_eq_getElem?_getD, List.getElem?_eq_getElem hl]
  exact List.getElem_mem hl
end Mine
namespace Mine
open PySem PySem.W PyProof.Rows PyProof.Rows.LCg
section
variable {prog : Program} {w : World} {A : Around} {E : Value → Shared → Prop} {s : Shared} {h₀ : Heap} {L : Addr} {m : Str → Option Value} {env : Env} {elt iter : Expr} {x : Str} {scope : Scope} {cl : List (Str × Addr)}
theorem rest_inv {S : List (Addr × Obj) → Prop} {P : Nat → Value → Prop} {Fin : List Value → List (Addr × Obj) → Prop} {n : Nat} {news₀ : List (Addr × Obj)} (Iv : Nat → List Value → List (Addr × Obj) → Prop) (h0 : Iv 0 [] news₀)
    (turn : ∀ i ys news v I oI C oC D m₂ h tk (E' : Value → Shared → Prop), i < n → Iv i ys news → P i v → NsObj oC m₂ → m₂ x = some v → Fr h₀ L h m → News h₀ L h ((I, oI) :: (C, oC) :: (D, lst ys) :: news) → Off3 I C D news → ((@Ne Nat I C) ∧ (@Ne Nat I D) ∧ (@Ne Nat C D)) →
      wpAny (model prog w) A (eval elt (compEnvC scope cl C env)) (CompEnd h₀ L m { s with heap := h, toks := tk } I oI C oC D (lst ys) S (fun y news' => Iv (i + 1) (ys ++ [y]) news')) E' { s with heap := h, toks := tk })
    (fin : ∀ ys news, Iv n ys news → Fin ys news) : CompRest prog w A h₀ L m env elt x scope cl s S P Fin n 0 [] news₀ := by
  have key : ∀ (j i : Nat) (ys : List Value) (news : List (Addr × Obj)), i + j = n → Iv i ys news → CompRest prog w A h₀ L m env elt x scope cl s S P Fin j i ys news := by
    intro j
    induction j with
    | zero =>
      intro i ys news hi hI
      obtain rfl : i = n := by omega
      exact CompRest.zero (fin ys news hI)
    | succ j ih =>
      intro i ys news hi hI
      refine CompRest.succ ?_
      intro v I oI C oC D m₂ h tk E' hv hC hx F N off ne
      refine wpAny_mono (turn i ys news v I oI C oC D m₂ h tk E' (by omega) hI hv hC hx F N off ne) (fun y s₂ hq => ?_) fun _ _ e => e
      obtain ⟨h', tk', nw, e, F', N', off', hS, hI'⟩ := hq
      exact ⟨h', tk', nw, e, F', N', off', hS, ih (i + 1) _ nw (by omega) hI'⟩
  exact key n 0 [] news₀ (by omega) h0

/-- a list comprehension over whatever walks -/
theorem ListComp_W {px : Pos} {pos : Pos} {Q : Value → Shared → Prop} (_F₀ : Fr h₀ L s.heap m)
    (hclos : closureFor scope env = pure cl) (hcell : ∀ y ∈ scope.names, y.2 ≠ .cell) (hkind : scope.kind = .function)
    (hnames : ∀ y ∈ scope.names, y.2 = .local → scope.names.lookup y.1 = some .local) (hx : scope.names.lookup x = some .local)
    (h : wpAny (model prog w) A (eval iter env) (fun xv s₁ => wpAny (model prog w) A (pyIter xv) (fun it s₂ =>
      ∃ (I : Addr) (fp : List Addr) (n : Nat) (P : Nat → Value → Prop) (St : Nat → Heap → Prop) (S : List (Addr × Obj) → Prop) (news : List (Addr × Obj)), it = .ref I ∧ Walks prog w A I fp [I] n P St ∧ n ≤ sizeLine ∧ (∀ i h, St i h → ∃ o, h.get? I = some o) ∧
        (∀ i h h' o nw, St i h → h.get? I = some o → h'.get? I = some o → (∀ b o, h₀.get? b = some o → h'.get? b = some o) → News h₀ L h' nw → S nw → St i h') ∧
        St 0 s₂.heap ∧ (∀ b ∈ fp, b < s₂.heap.objs.size) ∧ Fr h₀ L s₂.heap m ∧ News h₀ L s₂.heap news ∧ L ≠ I ∧ h₀.get? I = none ∧ (∀ p ∈ news, p.1 ≠ I) ∧ S news ∧
        CompRest prog w A h₀ L m env elt x scope cl s₂ S P (FinE h₀ L m s₂ Q) n 0 [] news) E s₁) E s)
    (hs : ∀ x, foldedSetIterable iter env x = pure x := by intro _; rfl) :
    wpAny (model prog w) A (eval (.ListComp elt [⟨.Name x px, iter, [], 0⟩] scope pos) env) Q E s := by
  rw [eval_ListComp]
  refine wpAny_comprehension_free (use := none) rfl hs hclos hkind hnames (wpAny_mono h (fun xv s₁ h₁ => wpAny_mono h₁ (fun it s₂ h₂ => ?_) fun _ _ e => e) fun _ _ e => e)
  obtain ⟨I, fp, n, P, St, S, news, rfl, W, hsz, hIo, hSt, hst, hfp, F, N, hIL, hI₀, off, hS, R⟩ := h₂
  refine block_U W hsz hIo hSt hcell hkind hx hst hfp F N hIL hI₀ off hS R ?_
  intro D C h' tk m' ys news' F' N' o1 hn hC₀ hD₀ hCL hDL hCD offC fin
  refine ⟨m', hn, fun h'' hs'' => fin D h'' tk (F'.change hs'' hCL hC₀) (fun p hp => ?_) o1⟩
  refine ⟨hs''.extBut _ _ ?_ (N' p hp).1, (N' p hp).2⟩
  rcases List.mem_cons.mp hp with rfl | hp
  · exact Ne.symm hCD
  · exact offC p hp

/-- over a text: what the iteration asks -/
theorem src_str {xt : Str} {t : Tok} {Q : Value → Shared → Prop} {news : List (Addr × Obj)} (hh : A.handled = none) (F : Fr h₀ L s.heap m) (N : News h₀ L s.heap news) (hsz : xt.cps.size ≤ sizeLine)
    (h : ∀ g, CompRest prog w A h₀ L m env elt x scope cl { s with heap := g } (fun _ => True) (SignAt xt) (FinE h₀ L m { s with heap := g } Q) xt.cps.size 0 [] news) :
    wpAny (model prog w) A (pyIter (.str xt t)) (fun it s₂ =>
      ∃ (I : Addr) (fp : List Addr) (n : Nat) (P : Nat → Value → Prop) (St : Nat → Heap → Prop) (S : List (Addr × Obj) → Prop) (news : List (Addr × Obj)), it = .ref I ∧ Walks prog w A I fp [I] n P St ∧ n ≤ sizeLine ∧ (∀ i h, St i h → ∃ o, h.get? I = some o) ∧
        (∀ i h h' o nw, St i h → h.get? I = some o → h'.get? I = some o → (∀ b o, h₀.get? b = some o → h'.get? b = some o) → News h₀ L h' nw → S nw → St i h') ∧
        St 0 s₂.heap ∧ (∀ b ∈ fp, b < s₂.heap.objs.size) ∧ Fr h₀ L s₂.heap m ∧ News h₀ L s₂.heap news ∧ L ≠ I ∧ h₀.get? I = none ∧ (∀ p ∈ news, p.1 ≠ I) ∧ S news ∧
        CompRest prog w A h₀ L m env elt x scope cl s₂ S P (FinE h₀ L m s₂ Q) n 0 [] news) E s := by
  have main : ∀ (ty : String) (o : Obj), (Walks prog w A s.heap.objs.size [s.heap.objs.size] [s.heap.objs.size] xt.cps.size (SignAt xt) (fun i h => h.IsStrIter s.heap.objs.size ty xt t i)) → (s.heap.push o).IsStrIter s.heap.objs.size ty xt t 0 →
      ∃ (I : Addr) (fp : List Addr) (n : Nat) (P : Nat → Value → Prop) (St : Nat → Heap → Prop) (S : List (Addr × Obj) → Prop) (news : List (Addr × Obj)), Value.ref s.heap.objs.size = .ref I ∧ Walks prog w A I fp [I] n P St ∧ n ≤ sizeLine ∧ (∀ i h, St i h → ∃ o, h.get? I = some o) ∧
        (∀ i h h' o nw, St i h → h.get? I = some o → h'.get? I = some o → (∀ b o, h₀.get? b = some o → h'.get? b = some o) → News h₀ L h' nw → S nw → St i h') ∧
        St 0 (s.heap.push o) ∧ (∀ b ∈ fp, b < (s.heap.push o).objs.size) ∧ Fr h₀ L (s.heap.push o) m ∧ News h₀ L (s.heap.push o) news ∧ L ≠ I ∧ h₀.get? I = none ∧ (∀ p ∈ news, p.1 ≠ I) ∧ S news ∧
        CompRest prog w A h₀ L m env elt x scope cl { s with heap := s.heap.push o } S P (FinE h₀ L m { s with heap := s.heap.push o } Q) n 0 [] news := by
    intro ty o W hst
    refine ⟨s.heap.objs.size, _, _, _, _, fun _ => True, news, rfl, W, hsz, fun i h st => ?_, ?_, hst, ?_, F.push o, fun p hp => ⟨Heap.get?_push_of_some _ (N p hp).1, (N p hp).2⟩, Nat.ne_of_lt F.ns.lt, next_is_new F, fun p hp => Nat.ne_of_lt (Heap.lt_size (N p hp).1), trivial, h _⟩
    · obtain ⟨o, e, _⟩ := st; exact ⟨o, e⟩
    · intro i h h' o nw st e e' _ _ _
      obtain ⟨o', q, r⟩ := st
      rw [e] at q; cases q
      exact ⟨o, e', r⟩
    · intro b hb
      rw [List.mem_singleton.mp hb, Heap.size_push]; exact Nat.lt_succ_self _
  cases ha : xt.cps.all (· < 128)
  · exact wpAny_pyIter_wide ha (main _ _ (Walks.strWide hh _ xt t) ⟨_, Heap.get?_push_size _ rfl, rfl, rfl⟩)
  · exact wpAny_pyIter_ascii ha (main _ _ (Walks.strAscii hh _ xt t) ⟨_, Heap.get?_push_size _ rfl, rfl, rfl⟩)
end
section
variable {prog : Program} {w : World} {A : Around} {E : Value → Shared → Prop} {s : Shared} {h₀ : Heap} {L d : Addr} {m : Str → Option Value} {env : Env} {elt : Expr} {x : Str} {scope : Scope} {cl : List (Str × Addr)}
/-- over a dict of the ledger: its keys -/
theorem src_dict {od : Obj} {kvs : List (Int × Value)} {Q : Value → Shared → Prop} {news : List (Addr × Obj)} (hh : A.handled = none) (F : Fr h₀ L s.heap m) (N : News h₀ L s.heap news) (hd : (d, od) ∈ news) (hod : od.IsDictOf (intKind prog w) kvs) (lo : (d == sysModules) = false)
    (hsz : kvs.length ≤ sizeLine)
    (h : ∀ g, CompRest prog w A h₀ L m env elt x scope cl { s with heap := g } (fun nw => (d, od) ∈ nw) (fun i v => ∃ k y, kvs[i]? = some (k, y) ∧ (intKind prog w).is k v = true) (FinE h₀ L m { s with heap := g } Q) kvs.length 0 [] news) :
    wpAny (model prog w) A (pyIter (.ref d)) (fun it s₂ =>
      ∃ (I : Addr) (fp : List Addr) (n : Nat) (P : Nat → Value → Prop) (St : Nat → Heap → Prop) (S : List (Addr × Obj) → Prop) (news : List (Addr × Obj)), it = .ref I ∧ Walks prog w A I fp [I] n P St ∧ n ≤ sizeLine ∧ (∀ i h, St i h → ∃ o, h.get? I = some o) ∧
        (∀ i h h' o nw, St i h → h.get? I = some o → h'.get? I = some o → (∀ b o, h₀.get? b = some o → h'.get? b = some o) → News h₀ L h' nw → S nw → St i h') ∧
        St 0 s₂.heap ∧ (∀ b ∈ fp, b < s₂.heap.objs.size) ∧ Fr h₀ L s₂.heap m ∧ News h₀ L s₂.heap news ∧ L ≠ I ∧ h₀.get? I = none ∧ (∀ p ∈ news, p.1 ≠ I) ∧ S news ∧
        CompRest prog w A h₀ L m env elt x scope cl s₂ S P (FinE h₀ L m s₂ Q) n 0 [] news) E s := by
  obtain ⟨ep, ha⟩ := KdkAt.of hod
  have hdl : d < s.heap.objs.size := Heap.lt_size (N _ hd).1
  have hat := ha.dictAt (N _ hd).1
  refine wpAny_pyIter_dict lo hat ?_
  refine ⟨s.heap.objs.size, _, _, _, _, fun nw => (d, od) ∈ nw, news, rfl, Walks.dictKeys (knd := intKind prog w) hh s.heap.objs.size d (Nat.ne_of_lt hdl) kvs ep, hsz, fun i h st => ?_, ?_, ?_, ?_, F.push _, fun p hp => ⟨Heap.get?_push_of_some _ (N p hp).1, (N p hp).2⟩, Nat.ne_of_lt F.ns.lt, next_is_new F, fun p hp => Nat.ne_of_lt (Heap.lt_size (N p hp).1), hd, h _⟩
  · obtain ⟨⟨o, e, _⟩, _⟩ := st; exact ⟨o, e⟩
  · intro i h h' o nw st e e' _ N' hS
    refine ⟨?_, ha.dictAt (N' _ hS).1⟩
    obtain ⟨o', q, r⟩ := st.1
    rw [e] at q; cases q
    exact ⟨o, e', r⟩
  · exact ⟨⟨_, Heap.get?_push_size _ rfl, rfl, rfl⟩, ha.dictAt (Heap.get?_push_of_some _ (N _ hd).1)⟩
  · intro b hb
    rw [Heap.size_push]
    rcases List.mem_cons.mp hb with rfl | hb
    · exact Nat.lt_succ_self _
    · rw [List.mem_singleton.mp hb]; exact Nat.lt_succ_of_lt hdl
end
end Mine
namespace Mine
open PySem PySem.W PyProof.Rows PyProof.Rows.LCg
theorem rs_n {r : Int} (h : 0 ≤ r) : Builtin.Range.rangeSize 0 r 1 = ((r.toNat : Nat) : Int) := by
  obtain ⟨n, rfl⟩ := Int.eq_ofNat_of_zero_le h
  simpa using rangeSize_nat 0 n
section
variable {prog : Program} {w : World} {A : Around} {E : Value → Shared → Prop} {s : Shared} {h₀ : Heap} {L : Addr} {m : Str → Option Value} {env : Env} {elt iter : Expr} {x : Str} {scope : Scope} {cl : List (Str × Addr)}
theorem src_CJ {li It pc st l0 aT aI aM aS r : Addr} {o1 o2 o3 o4 oT oI oM oS : Obj} {i₀ x₀ rC : Int} {ti tx t₀ u₀ v₀ : Tok} {nst : Nat} {Q : Value → Shared → Prop}
    (hh : A.handled = none) (F : Fr h₀ L s.heap m) (N : News h₀ L s.heap [(li, o1), (It, o2), (pc, o3), (st, listOf [Value.ref l0, .int i₀ ti, .int x₀ tx].toArray nst), (l0, o4), (aT, oT), (aI, oI), (aM, oM), (aS, oS)])
    (hr : IsRange s.heap r 0 rC 1 t₀ u₀ v₀) (h0 : 0 ≤ rC) (h4 : rC < 4) (hb : 0 ≤ i₀ ∧ i₀ ≤ 60 ∧ 0 ≤ x₀ ∧ x₀ < 2147483647)
    (turn : ∀ (ys : List Value) (i' x' : Int) (ti tx : Tok) (nst : Nat) (I : Addr) (oIt : Obj) (C : Addr) (oC : Obj) (D : Addr) (m₂ : Str → Option Value) (h : Heap) (tk : Nat) (g : Heap) (E' : Value → Shared → Prop) (Z : Value → List (Addr × Obj) → Prop),
      (0 ≤ i' ∧ i' ≤ 60 ∧ 0 ≤ x' ∧ x' < 2147483647) → NsObj oC m₂ → Fr h₀ L h m →
      News h₀ L h [(I, oIt), (C, oC), (D, lst ys), (li, o1), (It, o2), (pc, o3), (st, listOf [Value.ref l0, .int i' ti, .int x' tx].toArray nst), (l0, o4), (aT, oT), (aI, oI), (aM, oM), (aS, oS)] →
      Off3 I C D [(li, o1), (It, o2), (pc, o3), (st, listOf [Value.ref l0, .int i' ti, .int x' tx].toArray nst), (l0, o4), (aT, oT), (aI, oI), (aM, oM), (aS, oS)] → ((@Ne Nat I C) ∧ (@Ne Nat I D) ∧ (@Ne Nat C D)) →
      (∀ (y : Str) (t : Tok) (i' x' : Int) (ti tx : Tok), y.length ≤ 2 → (0 ≤ i' ∧ i' ≤ 60 ∧ 0 ≤ x' ∧ x' < 2147483647) → Z (.str y t) [(li, o1), (It, o2), (pc, o3), (st, listOf [Value.ref l0, .int i' ti, .int x' tx].toArray nst), (l0, o4), (aT, oT), (aI, oI), (aM, oM), (aS, oS)]) →
      wpAny (model prog w) A (eval elt (compEnvC scope cl C env)) (CompEnd h₀ L m { s with heap := h, toks := tk } I oIt C oC D (lst ys) (fun _ => True) Z) E' { s with heap := h, toks := tk })
    (fin : ∀ (ys : List Value) (zs : List Str) (i' x' : Int) (ti tx : Tok) (nst : Nat) (D : Addr) (h : Heap) (tk : Nat), StrsAre ys zs → zs.length ≤ 3 → (∀ z ∈ zs, z.length ≤ 2) → (0 ≤ i' ∧ i' ≤ 60 ∧ 0 ≤ x' ∧ x' < 2147483647) → Fr h₀ L h m →
      News h₀ L h [(D, lst ys), (li, o1), (It, o2), (pc, o3), (st, listOf [Value.ref l0, .int i' ti, .int x' tx].toArray nst), (l0, o4), (aT, oT), (aI, oI), (aM, oM), (aS, oS)] →
      Off1 D [(li, o1), (It, o2), (pc, o3), (st, listOf [Value.ref l0, .int i' ti, .int x' tx].toArray nst), (l0, o4), (aT, oT), (aI, oI), (aM, oM), (aS, oS)] → Q (.ref D) { s with heap := h, toks := tk }) :
    CompSrc prog w A h₀ L m env elt x scope cl (fun s₂ => FinE h₀ L m s₂ Q) (.ref r) s := by
  refine CompSrc.range hh F N hr (small_one (by omega) (by omega) (by omega) (by omega)) (rs_n h0) (by rw [sizeLine_eq]; omega) (fun g => ?_)
  refine rest_inv (CJ [(li, o1), (It, o2), (pc, o3)] [(l0, o4), (aT, oT), (aI, oI), (aM, oM), (aS, oS)] st l0) ⟨i₀, x₀, ti, tx, nst, [], rfl, hb, .nil, rfl, fun _ h => (nomatch h)⟩ ?_ ?_
  · rintro i ys news v I oIt C oC D m₂ h tk E' hi ⟨i', x', ti', tx', nst', zs, rfl, hb', hz, hzl, hz2⟩ - hC - F' N' off ne
    refine turn ys i' x' ti' tx' nst' I oIt C oC D m₂ h tk g E' _ hb' hC F' N' off ne ?_
    intro y t i'' x'' ti'' tx'' hy hb''
    refine ⟨i'', x'', ti'', tx'', nst', zs ++ [y], rfl, hb'', StrsAre.append' hz (.cons _ _ .nil), by rw [List.length_append, hzl]; rfl, ?_⟩
    intro z hz'
    rcases List.mem_append.mp hz' with h | h
    · exact hz2 z h
    · rw [List.mem_singleton.mp h]; exact hy
  · rintro ys news ⟨i', x', ti', tx', nst', zs, rfl, hb', hz, hzl, hz2⟩ D h tk F' N' o1'
    exact fin ys zs i' x' ti' tx' nst' D h tk hz (by omega) hz2 hb' F' N' o1'
end
end Mine
namespace Mine
open PySem PySem.W PyProof.Rows PyProof.Rows.LCg
theorem cps_app (x y : Str) : (x ++ y).cps.toList = x.cps.toList ++ y.cps.toList := by
  rw [Str.cps_append]; simp
theorem len_app (x y : Str) : (x ++ y).length = x.length + y.length := Str.length_append x y
theorem len_cps (x : Str) : x.length = x.cps.toList.length := by simp [Str.length]
theorem join_list : ∀ ts : List Str, (Txt.join (Str.ofString "") ts).cps.toList = (ts.map fun t => t.cps.toList).flatten := by
  intro ts
  rw [show Txt.join (Str.ofString "") ts = Str.join (Str.ofString "") ts from StrLaws.glued_eq_join _ _]
  have he : (Str.ofString "").cps.toList = [] := by decide +kernel
  induction ts with
  | nil => rfl
  | cons x r ih =>
    cases r with
    | nil => simp [Str.join]
    | cons y r' =>
      rw [show Str.join (Str.ofString "") (x :: y :: r') = x ++ Str.ofString "" ++ Str.join (Str.ofString "") (y :: r') from rfl, cps_app, cps_app, he, ih]
      simp
theorem sum_small {zs : List Str} {B : Nat} (h : ∀ z ∈ zs, z.length ≤ B) : (zs.map (·.length)).sum ≤ zs.length * B := by
  induction zs with
  | nil => simp
  | cons z r ih =>
    have h1 := h z (.head _)
    have h2 := ih fun y hy => h y (.tail _ hy)
    simp only [List.map_cons, List.sum_cons, List.length_cons, Nat.add_mul]
    omega
theorem join_len (ts : List Str) : (Txt.join (Str.ofString "") ts).length = (ts.map (·.length)).sum := by
  rw [len_cps, join_list, List.length_flatten, List.map_map]
  congr 1
theorem join3 {zs : List Str} (h3 : zs.length ≤ 3) (h : ∀ z ∈ zs, z.length ≤ 2) : (Txt.join (Str.ofString "") zs).length ≤ 6 ∧ (zs.map (·.length)).sum + zs.length ≤ 1048576 := by
  have := sum_small h
  rw [join_len]
  omega
def dblS (mark : Str) (c : Nat) : Str := if ((⟨#[c]⟩ : Str) == mark) = true then (⟨#[c]⟩ : Str) ++ ⟨#[c]⟩ else ⟨#[c]⟩
theorem dblS_t {mark : Str} {c : Nat} (h : ((⟨#[c]⟩ : Str) == mark) = true) : (⟨#[c]⟩ : Str) ++ ⟨#[c]⟩ = dblS mark c := by unfold dblS; rw [if_pos h]
theorem dblS_f {mark : Str} {c : Nat} (h : ((⟨#[c]⟩ : Str) == mark) = false) : (⟨#[c]⟩ : Str) = dblS mark c := by unfold dblS; rw [if_neg (by rw [h]; exact Bool.false_ne_true)]
theorem dblS_len (mark : Str) (c : Nat) : (dblS mark c).length ≤ 2 := by
  unfold dblS
  split
  · rw [len_app]; exact Nat.le_refl 2
  · exact Nat.le_succ 1
theorem dblS_list (mk c : Nat) : (dblS ⟨#[mk]⟩ c).cps.toList = if c = mk then [c, c] else [c] := by
  unfold dblS
  by_cases h : c = mk
  · subst h
    rw [if_pos (by simp), if_pos rfl, cps_app]; rfl
  · rw [if_neg (by simpa using h), if_neg h]
theorem dbl_eq (mk : Nat) (body : List Nat) : ((body.map (dblS ⟨#[mk]⟩)).map fun t => t.cps.toList).flatten = dbl mk body := by
  unfold dbl
  induction body with
  | nil => rfl
  | cons c r ih => simp only [List.map_cons, List.flatten_cons, List.flatMap_cons, ih, dblS_list]
theorem dblS_fits {body mark : Str} (hb : body.length ≤ 6) : ((body.cps.toList.map (dblS mark)).map (·.length)).sum + (body.cps.toList.map (dblS mark)).length ≤ 1048576 := by
  have h : ∀ z ∈ body.cps.toList.map (dblS mark), z.length ≤ 2 := by
    intro z hz
    obtain ⟨c, -, rfl⟩ := List.mem_map.mp hz
    exact dblS_len mark c
  have h1 := sum_small h
  have h2 : (body.cps.toList.map (dblS mark)).length = body.length := by rw [List.length_map]; simp [Str.length]
  omega
theorem mark_is {r : Int} (h0 : 0 ≤ r) (h1 : r < 2) : ∃ mk, (mk = 39 ∨ mk = 34) ∧ Txt.item (Str.ofString "'\"") r = (⟨#[mk]⟩ : Str) := by
  have : r = 0 ∨ r = 1 := by omega
  rcases this with rfl | rfl
  · exact ⟨39, .inl rfl, by decide +kernel⟩
  · exact ⟨34, .inr rfl, by decide +kernel⟩
theorem good_quoted {r : Int} {body : Str} (h0 : 0 ≤ r) (h1 : r < 2) (hb : body.length ≤ 6) :
    Good (Txt.item (Str.ofString "'\"") r ++ Txt.join (Str.ofString "") (body.cps.toList.map (dblS (Txt.item (Str.ofString "'\"") r))) ++ Txt.item (Str.ofString "'\"") r) ∧
      (Txt.item (Str.ofString "'\"") r ++ Txt.join (Str.ofString "") (body.cps.toList.map (dblS (Txt.item (Str.ofString "'\"") r))) ++ Txt.item (Str.ofString "'\"") r).length ≤ 100 := by
  obtain ⟨mk, hm, e⟩ := mark_is h0 h1
  rw [e]
  constructor
  · refine .quoted mk body.cps.toList hm ?_
    rw [cps_app, cps_app, join_list, dbl_eq]
    simp
  · rw [len_app, len_app, join_len]
    have h : ∀ z ∈ body.cps.toList.map (dblS ⟨#[mk]⟩), z.length ≤ 2 := by
      intro z hz
      obtain ⟨c, -, rfl⟩ := List.mem_map.mp hz
      exact dblS_len _ c
    have h1 := sum_small h
    have h2 : (body.cps.toList.map (dblS ⟨#[mk]⟩)).length = body.length := by rw [List.length_map]; simp [Str.length]
    have h3 : (⟨#[mk]⟩ : Str).length = 1 := rfl
    omega
section
variable {prog : Program} {w : World} {A : Around} {E : Value → Shared → Prop} {s : Shared} {h₀ : Heap} {L : Addr} {m : Str → Option Value} {env : Env} {elt : Expr} {x : Str} {scope : Scope} {cl : List (Str × Addr)}
theorem src_DBL {body mark : Str} {tb : Tok} {news : List (Addr × Obj)} {Q : Value → Shared → Prop} (hh : A.handled = none) (F : Fr h₀ L s.heap m) (N : News h₀ L s.heap news) (hb : body.length ≤ 6)
    (turn : ∀ (c : Nat) (t : Tok) (ys : List Value) (I : Addr) (oIt : Obj) (C : Addr) (oC : Obj) (D : Addr) (m₂ : Str → Option Value) (h : Heap) (tk : Nat) (E' : Value → Shared → Prop) (Z : Value → List (Addr × Obj) → Prop),
      NsObj oC m₂ → m₂ x = some (.str ⟨#[c]⟩ t) → Fr h₀ L h m → News h₀ L h ((I, oIt) :: (C, oC) :: (D, lst ys) :: news) → Off3 I C D news → ((@Ne Nat I C) ∧ (@Ne Nat I D) ∧ (@Ne Nat C D)) →
      (∀ (y : Str) (t : Tok), y = dblS mark c → Z (.str y t) news) →
      wpAny (model prog w) A (eval elt (compEnvC scope cl C env)) (CompEnd h₀ L m { s with heap := h, toks := tk } I oIt C oC D (lst ys) (fun _ => True) Z) E' { s with heap := h, toks := tk })
    (fin : ∀ (ys : List Value) (D : Addr) (h : Heap) (tk : Nat), StrsAre ys (body.cps.toList.map (dblS mark)) → Fr h₀ L h m → News h₀ L h ((D, lst ys) :: news) → Off1 D news → Q (.ref D) { s with heap := h, toks := tk }) :
    wpAny (model prog w) A (pyIter (.str body tb)) (fun it s₂ =>
      ∃ (I : Addr) (fp : List Addr) (n : Nat) (P : Nat → Value → Prop) (St : Nat → Heap → Prop) (S : List (Addr × Obj) → Prop) (news : List (Addr × Obj)), it = .ref I ∧ Walks prog w A I fp [I] n P St ∧ n ≤ sizeLine ∧ (∀ i h, St i h → ∃ o, h.get? I = some o) ∧
        (∀ i h h' o nw, St i h → h.get? I = some o → h'.get? I = some o → (∀ b o, h₀.get? b = some o → h'.get? b = some o) → News h₀ L h' nw → S nw → St i h') ∧
        St 0 s₂.heap ∧ (∀ b ∈ fp, b < s₂.heap.objs.size) ∧ Fr h₀ L s₂.heap m ∧ News h₀ L s₂.heap news ∧ L ≠ I ∧ h₀.get? I = none ∧ (∀ p ∈ news, p.1 ≠ I) ∧ S news ∧
        CompRest prog w A h₀ L m env elt x scope cl s₂ S P (FinE h₀ L m s₂ Q) n 0 [] news) E s := by
  have hl : body.cps.toList.length = body.cps.size := by simp
  refine src_str hh F N (by rw [sizeLine_eq]; have : body.length = body.cps.size := rfl; omega) fun g => ?_
  refine rest_inv (fun i ys nw => nw = news ∧ StrsAre ys ((body.cps.toList.take i).map (dblS mark))) ⟨rfl, by simpa using StrsAre.nil⟩ ?_ ?_
  · rintro i ys nw v I oIt C oC D m₂ h tk E' hi ⟨rfl, hz⟩ ⟨c, u, hc, rfl⟩ hC hx F' N' off ne
    refine turn c u ys I oIt C oC D m₂ h tk E' _ hC hx F' N' off ne ?_
    rintro y t rfl
    refine ⟨rfl, ?_⟩
    have hc' : body.cps.toList[i]? = some c := by rw [Array.getElem?_toList]; exact hc
    rw [List.take_add_one, hc', Option.toList_some, List.map_append]
    exact StrsAre.append' hz (.cons _ _ .nil)
  · rintro ys nw ⟨rfl, hz⟩ D h tk F' N' o1
    rw [← hl, List.take_length] at hz
    exact fin ys D h tk hz F' N' o1
end
end Mine
namespace Mine
open PySem PySem.W PyProof.Rows
theorem cut2 {M : Model} {A : Around} {E : Value → Shared → Prop} {Q : Flow → Shared → Prop} {s : Shared} {env : Env} {a b : Stmt} {rest : List Stmt} (R : Shared → Prop)
    (h1 : wpAny M A (exec a env) (fun f s' => match f with | .next => wpAny M A (exec b env) (fun f s'' => f = .next ∧ R s'') E s' | _ => False) E s)
    (h2 : ∀ s', R s' → wpAny M A (execs rest env) Q E s') : wpAny M A (execs (a :: b :: rest) env) Q E s := by
  refine wpAny_execs_cons (wpAny_mono h1 (fun f s' h => ?_) fun _ _ x => x)
  cases f with
  | next =>
    refine wpAny_execs_cons (wpAny_mono h (fun f s'' h' => ?_) fun _ _ x => x)
    obtain ⟨rfl, r⟩ := h'
    exact h2 s'' r
  | cont => exact h.elim
  | brk => exact h.elim
  | ret v => exact h.elim
def OpenQ (y : Str) : Prop := ∃ mk body, (mk = 39 ∨ mk = 34) ∧ y.cps.toList = mk :: body ∧ mk ∉ body
def OkPieces (ps : List Str) : Prop := ∃ gs tail, ps = gs ++ tail ∧ (∀ y ∈ gs, Good y) ∧ (tail = [] ∨ ∃ y, tail = [y] ∧ OpenQ y)
def PcOk (ps : List Str) : Prop := OkPieces ps ∧ ps.length ≤ 20 ∧ ∀ y ∈ ps, y.length ≤ 100
theorem pc_plain {ps : List Str} (hpl : ps.length ≤ 13) (hg : ∀ y ∈ ps, Good y ∧ y.length ≤ 100) : PcOk ps :=
  ⟨⟨ps, [], by simp, fun y hy => (hg y hy).1, .inl rfl⟩, by omega, fun y hy => (hg y hy).2⟩
def menu2 : List Str := [Str.ofString "'(a)", Str.ofString "\") ("]
theorem open_menu2 : ∀ y ∈ menu2, OpenQ y ∧ y.length ≤ 100 := by
  intro y hy
  simp only [menu2, List.mem_cons, List.not_mem_nil, or_false] at hy
  rcases hy with rfl | rfl
  · exact ⟨⟨39, [40, 97, 41], .inl rfl, by decide +kernel, by decide⟩, by decide +kernel⟩
  · exact ⟨⟨34, [41, 32, 40], .inr rfl, by decide +kernel, by decide⟩, by decide +kernel⟩
theorem pc_open {ps : List Str} {r : Int} (h0 : 0 ≤ r) (h1 : r < 2) (hpl : ps.length ≤ 13) (hg : ∀ y ∈ ps, Good y ∧ y.length ≤ 100) : PcOk (ps ++ [menu2.getD r.toNat Str.empty]) := by
  have hm : menu2.getD r.toNat Str.empty ∈ menu2 := by
    have hl : r.toNat < menu2.length := by show r.toNat < 2; omega
    rw [List.getD_eq_getElem?_getD, List.getElem?_eq_getElem hl]
    exact List.getElem_mem hl
  obtain ⟨ho, hlen⟩ := open_menu2 _ hm
  refine ⟨⟨ps, _, rfl, fun y hy => (hg y hy).1, .inr ⟨_, rfl, ho⟩⟩, by rw [List.length_append]; simp only [List.length_cons, List.length_nil]; omega, fun y hy => ?_⟩
  rcases List.mem_append.mp hy with h | h
  · exact (hg y h).2
  · rw [List.mem_singleton.mp h]; exact hlen
theorem good_sp : ∀ y ∈ [Str.ofString " ", Str.ofString "  "], Good y ∧ y.length ≤ 100 := by
  have h : ∀ y ∈ [Str.ofString " ", Str.ofString "  "], (∀ c ∈ y.cps.toList, c ≠ 39 ∧ c ≠ 34 ∧ c ≠ 40 ∧ c ≠ 41) ∧ y.length ≤ 100 := by decide +kernel
  exact fun y hy => ⟨.plain (h y hy).1, (h y hy).2⟩
theorem pc_wrap {ps : List Str} (hpl : ps.length ≤ 13) (hg : ∀ y ∈ ps, Good y ∧ y.length ≤ 100) : PcOk ([Str.ofString " ", Str.ofString "("] ++ ps ++ [Str.ofString ")", Str.ofString "  "]) := by
  have hall : ∀ y ∈ [Str.ofString " ", Str.ofString "("] ++ ps ++ [Str.ofString ")", Str.ofString "  "], Good y ∧ y.length ≤ 100 := by
    intro y hy
    rcases List.mem_append.mp hy with h | h
    · rcases List.mem_append.mp h with h | h
      · rcases List.mem_cons.mp h with rfl | h
        · exact good_sp _ (by simp)
        · rw [List.mem_singleton.mp h]; exact ⟨.opens, by decide +kernel⟩
      · exact hg y h
    · rcases List.mem_cons.mp h with rfl | h
      · exact ⟨.closes, by decide +kernel⟩
      · rw [List.mem_singleton.mp h]; exact good_sp _ (by simp)
  refine ⟨⟨_, [], (List.append_nil _).symm, fun y hy => (hall y hy).1, .inl rfl⟩, ?_, fun y hy => (hall y hy).2⟩
  simp only [List.length_append, List.length_cons, List.length_nil]
  omega
def RL (h₀ : Heap) (L cT : Addr) (oT : Obj) (s₁ s' : Shared) : Prop :=
  ∃ (h : Heap) (tk : Nat) (pcX : Addr) (onX : Nat) (pvs : List Value) (ps : List Str) (u : Str → Option Value), s' = { s₁ with heap := h, toks := tk } ∧ Fr h₀ L h (fun z => if z = Str.ofString "pieces" then some (.ref pcX) else u z) ∧
    News h₀ L h [(pcX, listOf pvs.toArray onX), (cT, oT)] ∧ @Ne Nat pcX cT ∧ StrsAre pvs ps ∧ PcOk ps
theorem rl_intro {h₀ : Heap} {L cT : Addr} {oT : Obj} {s₁ : Shared} {h : Heap} {tk : Nat} {pcX : Addr} {onX : Nat} {pvs : List Value} {ps : List Str} {m' : Str → Option Value} {all : List (Addr × Obj)}
    (F : Fr h₀ L h m') (N : News h₀ L h all) (h1 : (pcX, listOf pvs.toArray onX) ∈ all) (h2 : (cT, oT) ∈ all) (hne : @Ne Nat pcX cT) (hm : m' (Str.ofString "pieces") = some (.ref pcX)) (hps : StrsAre pvs ps) (hok : PcOk ps) :
    RL h₀ L cT oT s₁ { s₁ with heap := h, toks := tk } := by
  refine ⟨h, tk, pcX, onX, pvs, ps, m', rfl, ?_, ?_, hne, hps, hok⟩
  · have e : (fun z => if z = Str.ofString "pieces" then some (.ref pcX) else m' z) = m' := by
      funext z
      by_cases hz : z = Str.ofString "pieces"
      · rw [if_pos hz, hz, hm]
      · rw [if_neg hz]
    rw [e]; exact F
  · intro p hp
    refine N p ?_
    rcases List.mem_cons.mp hp with rfl | hp
    · exact h1
    · rw [List.mem_singleton.mp hp]; exact h2
theorem cut_RL {M : Model} {A : Around} {E : Value → Shared → Prop} {Q : Flow → Shared → Prop} {s : Shared} {env : Env} {a b : Stmt} {rest : List Stmt} {h₀ : Heap} {L cT : Addr} {oT : Obj} {m : Str → Option Value} {news : List (Addr × Obj)}
    (_F : Fr h₀ L s.heap m) (_N : News h₀ L s.heap news) (_hT : (cT, oT) ∈ news)
    (h1 : wpAny M A (exec a env) (fun f s' => match f with | .next => wpAny M A (exec b env) (fun f s'' => f = .next ∧ RL h₀ L cT oT s s'') E s' | _ => False) E s)
    (h2 : ∀ (h : Heap) (tk : Nat) (pcX : Addr) (onX : Nat) (pvs : List Value) (ps : List Str) (u : Str → Option Value), Fr h₀ L h (fun z => if z = Str.ofString "pieces" then some (.ref pcX) else u z) →
      News h₀ L h [(pcX, listOf pvs.toArray onX), (cT, oT)] → @Ne Nat pcX cT → StrsAre pvs ps → PcOk ps → wpAny M A (execs rest env) Q E { s with heap := h, toks := tk }) : wpAny M A (execs (a :: b :: rest) env) Q E s :=
  cut2 (RL h₀ L cT oT s) h1 fun s' ⟨h, tk, pcX, onX, pvs, ps, u, e, F, N, hne, hps, hok⟩ => by subst e; exact h2 h tk pcX onX pvs ps u F N hne hps hok
end Mine
namespace Mine
open PySem PySem.W PyProof.Rows PyProof.Rows.LCg
inductive OptAre : List Value → List (Option Nat) → Prop
  | nil : OptAre [] []
  | cons (o : Option Nat) (t : Tok) {vs os} : OptAre vs os → OptAre (optV o t :: vs) (o :: os)
theorem OptAre.snoc {vs os} (h : OptAre vs os) (o : Option Nat) (t : Tok) : OptAre (vs ++ [optV o t]) (os ++ [o]) := by
  induction h with
  | nil => exact .cons o t .nil
  | cons o' t' _ ih => exact .cons o' t' ih
theorem KvRel.vals {kvs P} (h : KvRel kvs P) : OptAre (kvs.map (·.2)) (P.map (·.2)) := by
  induction h with
  | nil => exact .nil
  | cons k o t _ ih => exact .cons o t ih
theorem KvRel.at {kvs P} (h : KvRel kvs P) {i : Nat} {k : Int} {y : Value} (e : kvs[i]? = some (k, y)) : ∃ (k' : Nat) (o : Option Nat), P[i]? = some (k', o) ∧ k = (k' : Int) := by
  induction h generalizing i with
  | nil => simp at e
  | cons k1 o t _ ih =>
    cases i with
    | zero =>
      simp only [List.getElem?_cons_zero, Option.some.injEq, Prod.mk.injEq] at e
      exact ⟨k1, o, rfl, e.1.symm⟩
    | succ i => simpa using ih (by simpa using e)
def optD : Option Nat → PyData
  | some k => .int (k : Int)
  | none => .none
theorem reads_optV {h : Heap} (o : Option Nat) (t : Tok) : Reads h (optV o t) (optD o) [] := by
  cases o with
  | none => exact Reads.none
  | some k => exact Reads.int _ _
theorem readsAll_opts {h : Heap} : ∀ {vs : List Value} {os : List (Option Nat)}, OptAre vs os → ReadsAll h vs (os.map optD) []
  | _, _, .nil => .nil
  | _, _, .cons o t r => by
    have := ReadsAll.cons (reads_optV (h := h) o t) (readsAll_opts (h := h) r)
    simpa using this
theorem reads_opts {h : Heap} {a : Addr} {vs : List Value} {os : List (Option Nat)} (hl : h.IsList a vs.toArray) (hi : OptAre vs os) : Reads h (.ref a) (.list (os.map optD)) [a] := by
  obtain ⟨o, ho, hc, n, hd⟩ := hl
  exact Reads.list ho hc hd (by simpa using readsAll_opts hi)
theorem canLay_opts : ∀ os : List (Option Nat), PyData.canLayAll0 (os.map optD) = true
  | [] => by simp [PyData.canLayAll0]
  | none :: r => by simp [optD, PyData.canLayAll0, PyData.canLay0, canLay_opts r]
  | some k :: r => by simp [optD, PyData.canLayAll0, PyData.canLay0, canLay_opts r]
theorem depth_opts : ∀ os : List (Option Nat), PyData.depthAll (os.map optD) ≤ 1
  | [] => by simp [PyData.depthAll]
  | none :: r => by
    have := depth_opts r
    simp only [List.map_cons, optD, PyData.depthAll, PyData.depth]
    omega
  | some k :: r => by
    have := depth_opts r
    simp only [List.map_cons, optD, PyData.depthAll, PyData.depth]
    omega
theorem shaped_opts (os : List (Option Nat)) : PySem.SeqAt.shaped (.list (os.map optD)) = true := by
  have h1 := depth_opts os
  have h2 : PyData.depth (.list (os.map optD)) ≤ 64 := by simp only [PyData.depth]; omega
  show (PyData.canLay0 (.list (os.map optD)) && decide (PyData.depth (.list (os.map optD)) ≤ 64)) = true
  rw [Bool.and_eq_true]
  exact ⟨by simp only [PyData.canLay0]; exact canLay_opts os, decide_eq_true h2⟩
theorem noMix_opts : ∀ os : List (Option Nat), SeqAt.noMixAll (os.map optD) (os.map optD) = true
  | [] => by simp [SeqAt.noMixAll]
  | none :: r => by simp [optD, SeqAt.noMixAll, SeqAt.noMix, noMix_opts r]
  | some k :: r => by simp [optD, SeqAt.noMixAll, SeqAt.noMix, noMix_opts r]
theorem same_opts : ∀ os : List (Option Nat), PySem.Spec.sameAll (os.map optD) (os.map optD) = true
  | [] => by simp [PySem.Spec.sameAll]
  | none :: r => by simp [optD, PySem.Spec.sameAll, PySem.Spec.same, same_opts r]
  | some k :: r => by simp [optD, PySem.Spec.sameAll, PySem.Spec.same, same_opts r]
section
variable {prog : Program} {w : World} {A : Around} {E : Value → Shared → Prop} {s : Shared}
theorem ne_opts {a b : Addr} {vs us : List Value} {os : List (Option Nat)} {Q : Value → Shared → Prop} (hl : s.heap.IsList a vs.toArray) (hi : OptAre vs os) (hl' : s.heap.IsList b us.toArray) (hi' : OptAre us os) (hu : A.units + 64 < cLine)
    (h : Q (.bool false) s) : wpAny (model prog w) A (compareOp .NotEq (.ref a) (.ref b)) Q E s :=
  ne_dataH_same (reads_opts hl hi) (reads_opts hl' hi') (shaped_opts os) (shaped_opts os) hu (by simp only [SeqAt.noMix]; exact noMix_opts os) (by simp only [PySem.Spec.same]; rw [same_opts]; exact h)
end
def val? (P : List (Nat × Option Nat)) (b : Nat) : Option (Option Nat) := (P.find? (fun e => e.1 = b)).map (·.2)
theorem KvRel.none {kvs P} (h : KvRel kvs P) {b : Nat} (e : val? P b = none) : valueAt kvs (b : Int) = none := by
  unfold valueAt val? at *
  induction h with
  | nil => rfl
  | cons k o t _ ih =>
    rw [List.find?_cons] at e ⊢
    by_cases hk : k = b
    · subst hk; simp at e
    · simp only [hk, decide_false, Int.ofNat_inj] at e ⊢; exact ih e
theorem KvRel.some {kvs P} (h : KvRel kvs P) {b : Nat} {o : Option Nat} (e : val? P b = some o) : ∃ t, valueAt kvs (b : Int) = some (optV o t) := by
  unfold valueAt val? at *
  induction h with
  | nil => simp at e
  | cons k o' t _ ih =>
    rw [List.find?_cons] at e ⊢
    by_cases hk : k = b
    · subst hk
      simp only [decide_true, Option.map_some, Option.some.injEq] at e
      subst e
      exact ⟨t, by simp⟩
    · simp only [hk, decide_false, Int.ofNat_inj] at e ⊢; exact ih e
def Match (text : Str) (P : List (Nat × Option Nat)) : Prop := ∀ e ∈ P, text.cps[e.1]? = some 40 ∧ scan (text.cps.toList.drop e.1) 0 none e.1 = e.2
section
variable {prog : Program} {w : World} {A : Around} {E : Value → Shared → Prop} {s : Shared} {h₀ : Heap} {L d : Addr} {m : Str → Option Value} {env : Env} {elt : Expr} {x : Str} {scope : Scope} {cl : List (Str × Addr)}
theorem src_M {od : Obj} {kvs : List (Int × Value)} {P : List (Nat × Option Nat)} {Q : Value → Shared → Prop} {news : List (Addr × Obj)} (hh : A.handled = none) (F : Fr h₀ L s.heap m) (N : News h₀ L s.heap news) (hd : (d, od) ∈ news) (hod : od.IsDictOf (intKind prog w) kvs) (lo : (d == sysModules) = false)
    (hkv : KvRel kvs P) (hsz : kvs.length ≤ 100)
    (turn : ∀ (k : Nat) (o : Option Nat) (t : Tok) (ys : List Value) (I : Addr) (oIt : Obj) (C : Addr) (oC : Obj) (D : Addr) (m₂ : Str → Option Value) (h : Heap) (tk : Nat) (E' : Value → Shared → Prop) (Z : Value → List (Addr × Obj) → Prop),
      (k, o) ∈ P → NsObj oC m₂ → m₂ x = some (.int (k : Int) t) → Fr h₀ L h m → News h₀ L h ((I, oIt) :: (C, oC) :: (D, lst ys) :: news) → Off3 I C D news → ((@Ne Nat I C) ∧ (@Ne Nat I D) ∧ (@Ne Nat C D)) →
      (∀ t : Tok, Z (optV o t) news) →
      wpAny (model prog w) A (eval elt (compEnvC scope cl C env)) (CompEnd h₀ L m { s with heap := h, toks := tk } I oIt C oC D (lst ys) (fun nw => (d, od) ∈ nw) Z) E' { s with heap := h, toks := tk })
    (fin : ∀ (ys : List Value) (D : Addr) (h : Heap) (tk : Nat), OptAre ys (P.map (·.2)) → Fr h₀ L h m → News h₀ L h ((D, lst ys) :: news) → Off1 D news → Q (.ref D) { s with heap := h, toks := tk }) :
    wpAny (model prog w) A (pyIter (.ref d)) (fun it s₂ =>
      ∃ (I : Addr) (fp : List Addr) (n : Nat) (P : Nat → Value → Prop) (St : Nat → Heap → Prop) (S : List (Addr × Obj) → Prop) (news : List (Addr × Obj)), it = .ref I ∧ Walks prog w A I fp [I] n P St ∧ n ≤ sizeLine ∧ (∀ i h, St i h → ∃ o, h.get? I = some o) ∧
        (∀ i h h' o nw, St i h → h.get? I = some o → h'.get? I = some o → (∀ b o, h₀.get? b = some o → h'.get? b = some o) → News h₀ L h' nw → S nw → St i h') ∧
        St 0 s₂.heap ∧ (∀ b ∈ fp, b < s₂.heap.objs.size) ∧ Fr h₀ L s₂.heap m ∧ News h₀ L s₂.heap news ∧ L ≠ I ∧ h₀.get? I = none ∧ (∀ p ∈ news, p.1 ≠ I) ∧ S news ∧
        CompRest prog w A h₀ L m env elt x scope cl s₂ S P (FinE h₀ L m s₂ Q) n 0 [] news) E s := by
  refine src_dict hh F N hd hod lo (by rw [sizeLine_eq]; omega) fun g => ?_
  refine rest_inv (fun i ys nw => nw = news ∧ OptAre ys ((P.take i).map (·.2))) ⟨rfl, by simpa using OptAre.nil⟩ ?_ ?_
  · rintro i ys nw v I oIt C oC D m₂ h tk E' hi ⟨rfl, hz⟩ ⟨k, y, hk, hv⟩ hC hx F' N' off ne
    obtain ⟨k', o, e, rfl⟩ := hkv.at hk
    obtain ⟨t, rfl⟩ := Value.isInt_shape hv
    refine turn k' o t ys I oIt C oC D m₂ h tk E' _ (List.mem_of_getElem? e) hC hx F' N' off ne ?_
    intro t'
    refine ⟨rfl, ?_⟩
    rw [List.take_add_one, e, Option.toList_some, List.map_append]
    exact hz.snoc o t'
  · rintro ys nw ⟨rfl, hz⟩ D h tk F' N' o1
    rw [hkv.length, List.take_length] at hz
    exact fin ys D h tk hz F' N' o1
end
theorem pairs_call (w : World) {mean : ExcName → Option Value} {mg mb : Str → Option Value} {dp un : Nat} {gd : Option (List Code)} {cn : Str} {cs : Scope} {a : Addr} {ccd : Value} {cl : List (Str × Addr)} {outer : List Env} {A₀ : Around} {base h₀ : Heap} {L : Addr} {m : Str → Option Value} {s : Shared} {Q E : Value → Shared → Prop}
    {rest : List (Addr × Obj)} {lp : Addr} {vs : List Value} {ys : List Str} {n : Nat}
    (B : Below A₀ base outer h₀) (F : Fr h₀ L s.heap m) (X : (hd.heap_39 w.params).In h₀) (N : News h₀ L s.heap ((lp, listOf vs.toArray n) :: rest))
    (T : Top hd.view_39 (looseW hd.view_39 [Str.ofString "find_matching_paren"]) mean mg mb h₀) (hk : cs.kind = .function)
    (hys : StrsAre vs ys)
    (hyl : ys.length ≤ 100) (hyy : ∀ y ∈ ys, y.length ≤ 1000)
    (hd : dp + 2 < recursionLimit) (hu : un + 500 < cLine)
    (hret : ∀ (d : Addr) (od : Obj) (kvs : List (Int × Value)) (h' : Heap) (tk' : Nat), od.IsDictOf (intKind PySem.Challenge.rw_eu0028_01.row.prog w) kvs → KvRel kvs (pairsF ys).1 → kvs.length ≤ ys.length → (d == sysModules) = false → (∀ p ∈ rest, p.1 < d) → lp < d → Fr h₀ L h' m → News h₀ L h' ((d, od) :: (lp, listOf vs.toArray n) :: rest) → Q (.ref d) { s with heap := h', toks := tk' }) :
    wpAny (model PySem.Challenge.rw_eu0028_01.row.prog w) (ktrTop dp un gd cn cs L a ccd cl outer) (call (.ref 43) [.ref lp]) Q E s :=
  pairs_spec w dp un gd cn cs a ccd cl outer A₀ base h₀ L m s Q E rest lp vs ys n B F X N T hk hys hyl hyy hd hu hret
theorem sop_call (w : World) {mean : ExcName → Option Value} {mg mb : Str → Option Value} {dp un : Nat} {gd : Option (List Code)} {cn : Str} {cs : Scope} {a : Addr} {ccd : Value} {cl : List (Str × Addr)} {outer : List Env} {A₀ : Around} {base h₀ : Heap} {L : Addr} {m : Str → Option Value} {s : Shared} {Q E : Value → Shared → Prop}
    {news : List (Addr × Obj)} {text : Str} {t1 : Tok}
    (B : Below A₀ base outer h₀) (F : Fr h₀ L s.heap m) (X : (hd.heap_39 w.params).In h₀) (N : News h₀ L s.heap news)
    (T : Top hd.view_39 (looseW hd.view_39 [Str.ofString "find_matching_paren"]) mean mg mb h₀) (hk : cs.kind = .function)
    (hlen : text.length ≤ 10000)
    (hd : dp + 2 < recursionLimit) (hu : un + 16 < cLine)
    (hret : ∀ (t : Tok) (h' : Heap) (tk' : Nat), Fr h₀ L h' m → News h₀ L h' news → Q (.str (sopF text) t) { s with heap := h', toks := tk' }) :
    wpAny (model PySem.Challenge.rw_eu0028_01.row.prog w) (ktrTop dp un gd cn cs L a ccd cl outer) (call (.ref 29) [.str text t1]) Q E s :=
  sop_spec w dp un gd cn cs a ccd cl outer A₀ base h₀ L m s Q E news text t1 B F X N T hk hlen hd hu hret
theorem pc_fits {ps : List Str} (h : PcOk ps) : (ps.map (·.length)).sum + ps.length ≤ 1048576 := by
  have := sum_small h.2.2
  have h2 := h.2.1
  omega
theorem pc_len {ps : List Str} (h : PcOk ps) : (Txt.join (Str.ofString "") ps).length ≤ 2000 := by
  have := sum_small h.2.2
  have h2 := h.2.1
  rw [join_len]
  omega
end Mine
namespace Mine
open PySem PySem.W PyProof.Rows
def qstep (q : Option Nat) (c : Nat) : Option Nat := match q with
  | some m => if c = m then none else some m
  | none => if c = 39 ∨ c = 34 then some c else none
def run : List Nat → Int → Option Nat → Nat → Nat ⊕ (Int × Option Nat)
  | [], d, q, _ => .inr (d, q)
  | c :: r, d, some m, i => run r d (if c = m then none else some m) (i + 1)
  | c :: r, d, none, i => if c = 39 ∨ c = 34 then run r d (some c) (i + 1) else if c = 40 then run r (d + 1) none (i + 1)
      else if c = 41 then (if d - 1 = 0 then .inl i else run r (d - 1) none (i + 1)) else run r d none (i + 1)
theorem scan_run : ∀ (l : List Nat) (d : Int) (q : Option Nat) (i : Nat), scan l d q i = (match run l d q i with | .inl j => some j | .inr _ => none)
  | [], d, q, i => by cases q <;> rfl
  | c :: r, d, some m, i => by
    rw [show scan (c :: r) d (some m) i = scan r d (if c = m then none else some m) (i + 1) from rfl, show run (c :: r) d (some m) i = run r d (if c = m then none else some m) (i + 1) from rfl]
    exact scan_run r _ _ _
  | c :: r, d, none, i => by
    rw [scan, run]
    by_cases h1 : c = 39 ∨ c = 34
    · rw [if_pos h1, if_pos h1]; exact scan_run r _ _ _
    · rw [if_neg h1, if_neg h1]
      by_cases h2 : c = 40
      · rw [if_pos h2, if_pos h2]; exact scan_run r _ _ _
      · rw [if_neg h2, if_neg h2]
        by_cases h3 : c = 41
        · rw [if_pos h3, if_pos h3]
          by_cases h4 : d - 1 = 0
          · rw [if_pos h4, if_pos h4]
          · rw [if_neg h4, if_neg h4]; exact scan_run r _ _ _
        · rw [if_neg h3, if_neg h3]; exact scan_run r _ _ _
theorem run_app (b : List Nat) : ∀ (a : List Nat) (d : Int) (q : Option Nat) (i : Nat), run (a ++ b) d q i = (match run a d q i with | .inl j => .inl j | .inr (d', q') => run b d' q' (i + a.length))
  | [], d, q, i => by cases q <;> rfl
  | c :: r, d, some m, i => by
    rw [List.cons_append, show run (c :: (r ++ b)) d (some m) i = run (r ++ b) d (if c = m then none else some m) (i + 1) from rfl, show run (c :: r) d (some m) i = run r d (if c = m then none else some m) (i + 1) from rfl, run_app b r]
    rw [List.length_cons, show i + (r.length + 1) = i + 1 + r.length by omega]
  | c :: r, d, none, i => by
    rw [List.cons_append, run, run, List.length_cons, show i + (r.length + 1) = i + 1 + r.length by omega]
    by_cases h1 : c = 39 ∨ c = 34
    · rw [if_pos h1, if_pos h1, run_app b r]
    · rw [if_neg h1, if_neg h1]
      by_cases h2 : c = 40
      · rw [if_pos h2, if_pos h2, run_app b r]
      · rw [if_neg h2, if_neg h2]
        by_cases h3 : c = 41
        · rw [if_pos h3, if_pos h3]
          by_cases h4 : d - 1 = 0
          · rw [if_pos h4, if_pos h4]
          · rw [if_neg h4, if_neg h4, run_app b r]
        · rw [if_neg h3, if_neg h3, run_app b r]
theorem run_inl {a b : List Nat} {d : Int} {q : Option Nat} {i j : Nat} (h : run a d q i = .inl j) : run (a ++ b) d q i = .inl j := by rw [run_app, h]
theorem run_inr {a b : List Nat} {d d' : Int} {q q' : Option Nat} {i : Nat} (h : run a d q i = .inr (d', q')) : run (a ++ b) d q i = run b d' q' (i + a.length) := by rw [run_app, h]
/-- found means a closing sign at that place -/
theorem run_found : ∀ {l : List Nat} {d : Int} {q : Option Nat} {i j : Nat}, run l d q i = .inl j → i ≤ j ∧ l[j - i]? = some 41
  | [], d, q, i, j, h => by cases q <;> cases h
  | c :: r, d, some m, i, j, h => by
    have := run_found (l := r) (show run r d (if c = m then none else some m) (i + 1) = .inl j from h)
    rw [show j - i = (j - (i + 1)) + 1 by omega, List.getElem?_cons_succ]
    exact ⟨by omega, this.2⟩
  | c :: r, d, none, i, j, h => by
    have hs : ∀ d' q', run r d' q' (i + 1) = .inl j → i ≤ j ∧ (c :: r)[j - i]? = some 41 := fun d' q' h => by
      have := run_found (l := r) h
      rw [show j - i = (j - (i + 1)) + 1 by omega, List.getElem?_cons_succ]
      exact ⟨by omega, this.2⟩
    rw [run] at h
    by_cases h1 : c = 39 ∨ c = 34
    · rw [if_pos h1] at h; exact hs _ _ h
    · rw [if_neg h1] at h
      by_cases h2 : c = 40
      · rw [if_pos h2] at h; exact hs _ _ h
      · rw [if_neg h2] at h
        by_cases h3 : c = 41
        · rw [if_pos h3] at h
          by_cases h4 : d - 1 = 0
          · rw [if_pos h4] at h
            cases h
            exact ⟨Nat.le_refl _, by simp [h3]⟩
          · rw [if_neg h4] at h; exact hs _ _ h
        · rw [if_neg h3] at h; exact hs _ _ h
/-- signs that are no closing sign find nothing -/
theorem run_blank : ∀ {l : List Nat} {d : Int} {q : Option Nat} {i : Nat}, 41 ∉ l → ∃ z, run l d q i = .inr z
  | [], d, q, i, _ => by cases q <;> exact ⟨_, rfl⟩
  | c :: r, d, some m, i, h => run_blank (l := r) (fun x => h (.tail _ x))
  | c :: r, d, none, i, h => by
    have hr : 41 ∉ r := fun x => h (.tail _ x)
    have hc : ¬ c = 41 := fun e => h (e ▸ .head _)
    rw [run]
    by_cases h1 : c = 39 ∨ c = 34
    · rw [if_pos h1]; exact run_blank hr
    · rw [if_neg h1]
      by_cases h2 : c = 40
      · rw [if_pos h2]; exact run_blank hr
      · rw [if_neg h2, if_neg hc]; exact run_blank hr
theorem run_shift (s : Nat) : ∀ (l : List Nat) (d : Int) (q : Option Nat) (i : Nat), run l d q (i + s) = (match run l d q i with | .inl j => .inl (j + s) | .inr z => .inr z)
  | [], d, q, i => by cases q <;> rfl
  | c :: r, d, some m, i => by
    have := run_shift s r d (if c = m then none else some m) (i + 1)
    rw [show i + 1 + s = i + s + 1 by omega] at this
    exact this
  | c :: r, d, none, i => by
    have hs : ∀ d' q', run r d' q' (i + s + 1) = (match run r d' q' (i + 1) with | .inl j => .inl (j + s) | .inr z => .inr z) := fun d' q' => by
      have := run_shift s r d' q' (i + 1)
      rwa [show i + 1 + s = i + s + 1 by omega] at this
    rw [run, run]
    by_cases h1 : c = 39 ∨ c = 34
    · rw [if_pos h1, if_pos h1, hs]
    · rw [if_neg h1, if_neg h1]
      by_cases h2 : c = 40
      · rw [if_pos h2, if_pos h2, hs]
      · rw [if_neg h2, if_neg h2]
        by_cases h3 : c = 41
        · rw [if_pos h3, if_pos h3]
          by_cases h4 : d - 1 = 0
          · rw [if_pos h4, if_pos h4]
          · rw [if_neg h4, if_neg h4, hs]
        · rw [if_neg h3, if_neg h3, hs]
/-! the machine sign by sign -/
structure CSt where
  q : Option Nat
  P : List (Nat × Option Nat)
  O : List Nat
  pl : Nat
def cstep (s : CSt) (c : Nat) : CSt := match s.q with
  | some m => { s with q := if c = m then none else some m, pl := s.pl + 1 }
  | none => if c = 39 ∨ c = 34 then { s with q := some c, pl := s.pl + 1 } else if c = 40 then ⟨none, putP s.P s.pl none, s.O ++ [s.pl], s.pl + 1⟩
      else if c = 41 then (if s.O = [] then { s with pl := s.pl + 1 } else ⟨none, putP s.P (s.O.getLastD 0) (some s.pl), s.O.dropLast, s.pl + 1⟩) else { s with pl := s.pl + 1 }
theorem putP_mem {P : List (Nat × Option Nat)} {k : Nat} {o : Option Nat} {e : Nat × Option Nat} (h : e ∈ putP P k o) : e = (k, o) ∨ (e ∈ P ∧ e.1 ≠ k) := by
  unfold putP at h
  split at h
  · obtain ⟨f, hf, rfl⟩ := List.mem_map.mp h
    by_cases hk : f.1 = k
    · rw [if_pos hk, hk]; exact .inl rfl
    · rw [if_neg hk]; exact .inr ⟨hf, hk⟩
  · rename_i hn
    rcases List.mem_append.mp h with h | h
    · refine .inr ⟨h, fun hk => hn ?_⟩
      exact List.any_eq_true.mpr ⟨e, h, by simpa using hk⟩
    · exact .inl (List.mem_singleton.mp h)
theorem putP_key {P : List (Nat × Option Nat)} {k : Nat} {o : Option Nat} : ∃ e ∈ putP P k o, e.1 = k := by
  unfold putP
  split
  · rename_i h
    obtain ⟨e, he, hk⟩ := List.any_eq_true.mp h
    have hk : e.1 = k := by simpa using hk
    exact ⟨_, List.mem_map.mpr ⟨e, he, rfl⟩, by rw [if_pos hk]; exact hk⟩
  · exact ⟨(k, o), List.mem_append_right _ (.head _), rfl⟩
theorem putP_keep {P : List (Nat × Option Nat)} {k j : Nat} {o : Option Nat} (h : ∃ e ∈ P, e.1 = j) : ∃ e ∈ putP P k o, e.1 = j := by
  obtain ⟨e, he, hj⟩ := h
  unfold putP
  split
  · refine ⟨_, List.mem_map.mpr ⟨e, he, rfl⟩, ?_⟩
    split
    · exact hj
    · exact hj
  · exact ⟨e, List.mem_append_left _ he, hj⟩
structure Inv (t : List Nat) (s : CSt) : Prop where
  pl : s.pl = t.length
  at40 : ∀ e ∈ s.P, t[e.1]? = some 40
  done : ∀ e ∈ s.P, ∀ j, e.2 = some j → run (t.drop e.1) 0 none e.1 = .inl j
  wait : ∀ e ∈ s.P, e.2 = none → e.1 ∈ s.O
  opened : ∀ O1 k O2, s.O = O1 ++ k :: O2 → t[k]? = some 40 ∧ run (t.drop k) 0 none k = .inr ((O2.length : Int) + 1, s.q)
  quote : t.foldl qstep none = s.q
  keys : ∀ k, t[k]? = some 40 → (t.take k).foldl qstep none = none → ∃ e ∈ s.P, e.1 = k
theorem lt_of_at {t : List Nat} {k c : Nat} (h : t[k]? = some c) : k < t.length := (List.getElem?_eq_some_iff.mp h).1
theorem at_snoc {t : List Nat} {k c d : Nat} (h : t[k]? = some c) : (t ++ [d])[k]? = some c := by rw [List.getElem?_append_left (lt_of_at h)]; exact h
theorem drop_snoc {t : List Nat} {k c d : Nat} (h : t[k]? = some c) : (t ++ [d]).drop k = t.drop k ++ [d] := List.drop_append_of_le_length (Nat.le_of_lt (lt_of_at h))
theorem drop_len {t : List Nat} {k c : Nat} (h : t[k]? = some c) : k + (t.drop k).length = t.length := by
  have := lt_of_at h
  rw [List.length_drop]; omega
/-- a sign that changes neither the pairs nor what is open -/
theorem Inv.still {t : List Nat} {s : CSt} {c : Nat} {q' : Option Nat} (I : Inv t s) (hq : qstep s.q c = q') (hr : ∀ (d : Int) i, d ≠ 0 → s.O ≠ [] → run [c] d s.q i = .inr (d, q')) (hk : c = 40 → s.q ≠ none) :
    Inv (t ++ [c]) { s with q := q', pl := s.pl + 1 } := by
  refine ⟨?_, ?_, ?_, ?_, ?_, ?_, ?_⟩
  · simp [I.pl]
  · exact fun e he => at_snoc (I.at40 e he)
  · intro e he j hj
    rw [drop_snoc (I.at40 e he)]
    exact run_inl (I.done e he j hj)
  · exact I.wait
  · intro O1 k O2 hO
    obtain ⟨h1, h2⟩ := I.opened O1 k O2 hO
    refine ⟨at_snoc h1, ?_⟩
    rw [drop_snoc h1, run_inr h2]
    exact hr _ _ (by omega) (by rw [show s.O = O1 ++ k :: O2 from hO]; simp)
  · rw [List.foldl_append, I.quote]; exact hq
  · intro k hk1 hk2
    by_cases hlt : k < t.length
    · rw [List.getElem?_append_left hlt] at hk1
      rw [List.take_append_of_le_length (Nat.le_of_lt hlt)] at hk2
      exact I.keys k hk1 hk2
    · have hkl := lt_of_at hk1
      rw [List.length_append, List.length_singleton] at hkl
      obtain rfl : k = t.length := by omega
      rw [List.getElem?_append_right (Nat.le_refl _), Nat.sub_self] at hk1
      rw [List.take_left', I.quote] at hk2
      · exact absurd hk2 (hk (by simpa using hk1))
      · rfl
theorem Inv.open {t : List Nat} {s : CSt} (I : Inv t s) (hq : s.q = none) : Inv (t ++ [40]) ⟨none, putP s.P s.pl none, s.O ++ [s.pl], s.pl + 1⟩ := by
  have hnew : (t ++ [40])[s.pl]? = some 40 := by rw [I.pl]; simp
  refine ⟨?_, ?_, ?_, ?_, ?_, ?_, ?_⟩
  · simp [I.pl]
  · intro e he
    rcases putP_mem he with rfl | ⟨he, -⟩
    · exact hnew
    · exact at_snoc (I.at40 e he)
  · intro e he j hj
    rcases putP_mem he with rfl | ⟨he, -⟩
    · cases hj
    · rw [drop_snoc (I.at40 e he)]
      exact run_inl (I.done e he j hj)
  · intro e he hn
    rcases putP_mem he with rfl | ⟨he, -⟩
    · exact List.mem_append_right _ (.head _)
    · exact List.mem_append_left _ (I.wait e he hn)
  · intro O1 k O2 hO
    dsimp only at hO
    rcases List.eq_nil_or_concat O2 with rfl | ⟨O2', z, rfl⟩
    · have := List.append_inj' hO rfl
      obtain ⟨rfl, h2⟩ := this
      obtain rfl : s.pl = k := by simpa using h2
      refine ⟨hnew, ?_⟩
      rw [I.pl, List.drop_left']
      · rfl
      · rfl
    · have hO' : s.O ++ [s.pl] = (O1 ++ k :: O2') ++ [z] := by rw [hO]; simp
      obtain ⟨h1, h2⟩ := List.append_inj' hO' rfl
      obtain ⟨h3, h4⟩ := I.opened O1 k O2' h1
      refine ⟨at_snoc h3, ?_⟩
      rw [drop_snoc h3, run_inr h4, hq]
      show Sum.inr _ = Sum.inr _
      simp
  · rw [List.foldl_append, I.quote, hq]; rfl
  · intro k hk1 hk2
    by_cases hlt : k < t.length
    · rw [List.getElem?_append_left hlt] at hk1
      rw [List.take_append_of_le_length (Nat.le_of_lt hlt)] at hk2
      exact putP_keep (I.keys k hk1 hk2)
    · have hkl := lt_of_at hk1
      rw [List.length_append, List.length_singleton] at hkl
      obtain rfl : k = t.length := by omega
      dsimp only
      rw [I.pl]
      exact putP_key
theorem Inv.close {t : List Nat} {s : CSt} {O0 : List Nat} {z : Nat} (I : Inv t s) (hq : s.q = none) (hO : s.O = O0 ++ [z]) : Inv (t ++ [41]) ⟨none, putP s.P z (some s.pl), O0, s.pl + 1⟩ := by
  obtain ⟨hz1, hz2⟩ := I.opened O0 z [] hO
  refine ⟨?_, ?_, ?_, ?_, ?_, ?_, ?_⟩
  · simp [I.pl]
  · intro e he
    rcases putP_mem he with rfl | ⟨he, -⟩
    · exact at_snoc hz1
    · exact at_snoc (I.at40 e he)
  · intro e he j hj
    rcases putP_mem he with rfl | ⟨he, -⟩
    · cases hj
      dsimp only
      rw [drop_snoc hz1, run_inr hz2, drop_len hz1, hq, I.pl]
      rfl
    · rw [drop_snoc (I.at40 e he)]
      exact run_inl (I.done e he j hj)
  · intro e he hn
    rcases putP_mem he with rfl | ⟨he, hk⟩
    · cases hn
    · have := I.wait e he hn
      rw [hO] at this
      rcases List.mem_append.mp this with h | h
      · exact h
      · exact absurd (List.mem_singleton.mp h) hk
  · intro O1 k O2 hO2
    dsimp only at hO2
    obtain ⟨h1, h2⟩ := I.opened O1 k (O2 ++ [z]) (by rw [hO, hO2]; simp)
    refine ⟨at_snoc h1, ?_⟩
    rw [drop_snoc h1, run_inr h2, hq]
    have hne : ¬ ((((O2 ++ [z]).length : Nat) : Int) + 1 - 1 = 0) := by rw [List.length_append, List.length_singleton]; omega
    show (if (((O2 ++ [z]).length : Nat) : Int) + 1 - 1 = 0 then _ else _) = _
    rw [if_neg hne]
    show Sum.inr _ = Sum.inr _
    simp
  · rw [List.foldl_append, I.quote, hq]; rfl
  · intro k hk1 hk2
    by_cases hlt : k < t.length
    · rw [List.getElem?_append_left hlt] at hk1
      rw [List.take_append_of_le_length (Nat.le_of_lt hlt)] at hk2
      exact putP_keep (I.keys k hk1 hk2)
    · have hkl := lt_of_at hk1
      rw [List.length_append, List.length_singleton] at hkl
      obtain rfl : k = t.length := by omega
      rw [List.getElem?_append_right (Nat.le_refl _), Nat.sub_self] at hk1
      cases hk1
theorem Inv.step {t : List Nat} {s : CSt} (I : Inv t s) (c : Nat) : Inv (t ++ [c]) (cstep s c) := by
  obtain ⟨q, P, O, pl⟩ := s
  cases q with
  | some m =>
    refine I.still (c := c) (q' := if c = m then none else some m) rfl (fun d i _ _ => ?_) (fun _ => by simp)
    show run [] d (if c = m then none else some m) (i + 1) = _
    rw [run]
  | none =>
    unfold cstep
    dsimp only
    by_cases h1 : c = 39 ∨ c = 34
    · rw [if_pos h1]
      refine I.still (c := c) (q' := some c) (by simp [qstep, h1]) (fun d i _ _ => ?_) (fun e => by omega)
      rw [run, if_pos h1, run]
    · rw [if_neg h1]
      by_cases h2 : c = 40
      · subst h2
        exact I.open rfl
      · rw [if_neg h2]
        by_cases h3 : c = 41
        · subst h3
          rw [if_pos rfl]
          by_cases hO : O = []
          · rw [if_pos hO]
            exact I.still (c := 41) (q' := none) rfl (fun _ _ _ h => absurd hO h) (fun e => by omega)
          · rw [if_neg hO]
            have hd := List.dropLast_concat_getLast hO
            have hg : O.getLastD 0 = O.getLast hO := by rw [List.getLastD_eq_getLast?, List.getLast?_eq_some_getLast hO]; rfl
            rw [hg]
            exact I.close (O0 := O.dropLast) (z := O.getLast hO) rfl hd.symm
        · rw [if_neg h3]
          refine I.still (c := c) (q' := none) (by simp [qstep, h1]) (fun d i _ _ => ?_) (fun e => absurd e h2)
          rw [run, if_neg h1, if_neg h2, if_neg h3, run]
theorem inv_fold : ∀ (l : List Nat) (t : List Nat) (s : CSt), Inv t s → Inv (t ++ l) (l.foldl cstep s)
  | [], t, s, I => by simpa using I
  | c :: r, t, s, I => by
    have := inv_fold r (t ++ [c]) (cstep s c) (I.step c)
    simpa using this
theorem inv_start : Inv [] ⟨none, [], [], 0⟩ := by
  refine ⟨rfl, ?_, ?_, ?_, ?_, rfl, ?_⟩
  · intro e he; cases he
  · intro e he; cases he
  · intro e he; cases he
  · intro O1 k O2 h; simp at h
  · intro k h; simp at h
end Mine
namespace Mine
open PySem PySem.W PyProof.Rows PySem.Builtin.Str
/-! pieces against signs -/
def ofP (q : Option Nat) (st : PSt) : CSt := ⟨q, st.1, st.2.1, st.2.2⟩
theorem fold_plain : ∀ (l : List Nat) (P : List (Nat × Option Nat)) (O : List Nat) (pl : Nat), (∀ c ∈ l, c ≠ 39 ∧ c ≠ 34 ∧ c ≠ 40 ∧ c ≠ 41) → l.foldl cstep ⟨none, P, O, pl⟩ = ⟨none, P, O, pl + l.length⟩
  | [], P, O, pl, _ => rfl
  | c :: r, P, O, pl, h => by
    obtain ⟨h1, h2, h3, h4⟩ := h c (.head _)
    have e : cstep ⟨none, P, O, pl⟩ c = ⟨none, P, O, pl + 1⟩ := by simp [cstep, h1, h2, h3, h4]
    rw [List.foldl_cons, e, fold_plain r P O (pl + 1) fun c hc => h c (.tail _ hc), List.length_cons]
    congr 1; omega
theorem fold_in {mk : Nat} : ∀ (l : List Nat) (P : List (Nat × Option Nat)) (O : List Nat) (pl : Nat), mk ∉ l → l.foldl cstep ⟨some mk, P, O, pl⟩ = ⟨some mk, P, O, pl + l.length⟩
  | [], P, O, pl, _ => rfl
  | c :: r, P, O, pl, h => by
    have hc : ¬ c = mk := fun e => h (e ▸ .head _)
    have e : cstep ⟨some mk, P, O, pl⟩ c = ⟨some mk, P, O, pl + 1⟩ := by simp [cstep, hc]
    rw [List.foldl_cons, e, fold_in r P O (pl + 1) fun hc => h (.tail _ hc), List.length_cons]
    congr 1; omega
theorem fold_dbl {mk : Nat} (hm : mk = 39 ∨ mk = 34) : ∀ (l : List Nat) (P : List (Nat × Option Nat)) (O : List Nat) (pl : Nat), (dbl mk l).foldl cstep ⟨some mk, P, O, pl⟩ = ⟨some mk, P, O, pl + (dbl mk l).length⟩
  | [], P, O, pl => rfl
  | c :: r, P, O, pl => by
    have hd : dbl mk (c :: r) = (if c = mk then [c, c] else [c]) ++ dbl mk r := by simp [dbl]
    rw [hd, List.foldl_append, List.length_append]
    by_cases hc : c = mk
    · subst hc
      have e : [c, c].foldl cstep ⟨some c, P, O, pl⟩ = ⟨some c, P, O, pl + 1 + 1⟩ := by
        show cstep (cstep ⟨some c, P, O, pl⟩ c) c = _
        simp [cstep, hm]
      rw [if_pos rfl, e, fold_dbl hm r]
      congr 1; simp only [List.length_cons, List.length_nil]; omega
    · have e : [c].foldl cstep ⟨some mk, P, O, pl⟩ = ⟨some mk, P, O, pl + 1⟩ := by
        show cstep ⟨some mk, P, O, pl⟩ c = _
        simp [cstep, hc]
      rw [if_neg hc, e, fold_dbl hm r]
      congr 1; simp only [List.length_cons, List.length_nil]; omega
theorem beq_list {x y : Str} (h : (x == y) = true) : x.cps.toList = y.cps.toList := by
  have : x = y := by simpa using h
  rw [this]
theorem l40 : (Str.ofString "(").cps.toList = [40] := by decide +kernel
theorem l41 : (Str.ofString ")").cps.toList = [41] := by decide +kernel
theorem not_beq {y : Str} (h : ∀ c, c = 40 ∨ c = 41 → y.cps.toList ≠ [c]) : (y == Str.ofString "(") = false ∧ (y == Str.ofString ")") = false := by
  constructor
  · cases e : (y == Str.ofString "(")
    · rfl
    · exact absurd ((beq_list e).trans l40) (h 40 (.inl rfl))
  · cases e : (y == Str.ofString ")")
    · rfl
    · exact absurd ((beq_list e).trans l41) (h 41 (.inr rfl))
theorem fold_good {y : Str} (g : Good y) (st : PSt) : y.cps.toList.foldl cstep (ofP none st) = ofP none (pstep st y) := by
  obtain ⟨P, O, pl⟩ := st
  cases g with
  | opens =>
    rw [l40, pstep_open (beq_self_eq_true _), len_cps, l40]
    rfl
  | closes =>
    have h0 : (Str.ofString ")" == Str.ofString "(") = false := by decide +kernel
    by_cases hO : O = []
    · rw [pstep_none h0 (beq_self_eq_true _) hO, l41, len_cps, l41, hO]
      rfl
    · rw [pstep_close h0 (beq_self_eq_true _) hO, l41, len_cps, l41]
      show cstep ⟨none, P, O, pl⟩ 41 = _
      simp [cstep, hO, ofP]
  | plain h =>
    obtain ⟨e1, e2⟩ := not_beq (y := y) fun c hc e => by
      have := h c (by rw [e]; exact .head _)
      omega
    rw [pstep_else e1 e2, len_cps]
    exact fold_plain _ P O pl h
  | quoted mk body hm h =>
    obtain ⟨e1, e2⟩ := not_beq (y := y) fun c hc e => by
      rw [h] at e
      have := congrArg List.length e
      simp at this
    rw [pstep_else e1 e2, len_cps, h, List.foldl_cons, List.foldl_append]
    have e : cstep (ofP none (P, O, pl)) mk = ⟨some mk, P, O, pl + 1⟩ := by simp [cstep, ofP, hm]
    rw [e, fold_dbl hm]
    show cstep ⟨some mk, P, O, _⟩ mk = _
    simp only [cstep, if_true, ofP, List.length_cons, List.length_append, List.length_nil]
    congr 1; omega
theorem fold_open {y : Str} (g : OpenQ y) (st : PSt) : ∃ q, y.cps.toList.foldl cstep (ofP none st) = ofP q (pstep st y) := by
  obtain ⟨P, O, pl⟩ := st
  obtain ⟨mk, body, hm, h, hb⟩ := g
  refine ⟨some mk, ?_⟩
  obtain ⟨e1, e2⟩ := not_beq (y := y) fun c hc e => by
    rw [h] at e
    have := (List.cons.inj e).1
    omega
  rw [pstep_else e1 e2, len_cps, h, List.foldl_cons]
  have e : cstep (ofP none (P, O, pl)) mk = ⟨some mk, P, O, pl + 1⟩ := by simp [cstep, ofP, hm]
  rw [e, fold_in body P O _ hb]
  simp only [ofP, List.length_cons]
  congr 1; omega
theorem fold_goods : ∀ (gs : List Str) (st : PSt), (∀ y ∈ gs, Good y) → ((gs.map fun t => t.cps.toList).flatten).foldl cstep (ofP none st) = ofP none (gs.foldl pstep st)
  | [], st, _ => rfl
  | y :: r, st, h => by
    rw [List.map_cons, List.flatten_cons, List.foldl_append, fold_good (h y (.head _)), fold_goods r _ fun y hy => h y (.tail _ hy)]
    rfl
theorem fold_pieces {ps : List Str} (h : OkPieces ps) : ∃ q, ((Txt.join (Str.ofString "") ps).cps.toList).foldl cstep ⟨none, [], [], 0⟩ = ofP q (pairsF ps) := by
  obtain ⟨gs, tail, rfl, hg, ht⟩ := h
  rw [join_list, List.map_append, List.flatten_append, List.foldl_append]
  have e := fold_goods gs ([], [], 0) hg
  rw [show (ofP none ([], [], 0) : CSt) = ⟨none, [], [], 0⟩ from rfl] at e
  rw [e]
  unfold pairsF
  rw [List.foldl_append]
  rcases ht with rfl | ⟨y, rfl, hy⟩
  · exact ⟨none, rfl⟩
  · obtain ⟨q, hq⟩ := fold_open hy (gs.foldl pstep ([], [], 0))
    refine ⟨q, ?_⟩
    rw [List.map_cons, List.map_nil, List.flatten_cons, List.flatten_nil, List.append_nil]
    exact hq
theorem inv_pieces {ps : List Str} (h : OkPieces ps) : ∃ q, Inv (Txt.join (Str.ofString "") ps).cps.toList (ofP q (pairsF ps)) := by
  obtain ⟨q, e⟩ := fold_pieces h
  have := inv_fold (Txt.join (Str.ofString "") ps).cps.toList [] _ inv_start
  rw [List.nil_append, e] at this
  exact ⟨q, this⟩
theorem Inv.scan {t : List Nat} {s : CSt} (I : Inv t s) {e : Nat × Option Nat} (he : e ∈ s.P) : scan (t.drop e.1) 0 none e.1 = e.2 := by
  rw [scan_run]
  cases ho : e.2 with
  | some j => rw [I.done e he j ho]
  | none =>
    obtain ⟨O1, O2, hO⟩ := List.append_of_mem (I.wait e he ho)
    rw [(I.opened O1 e.1 O2 hO).2]
theorem law_A {ps : List Str} (h : OkPieces ps) : Match (Txt.join (Str.ofString "") ps) (pairsF ps).1 := by
  obtain ⟨q, I⟩ := inv_pieces h
  intro e he
  refine ⟨?_, I.scan he⟩
  rw [← Array.getElem?_toList]
  exact I.at40 e he
/-! the outer signs -/
theorem val_mem {P : List (Nat × Option Nat)} {b : Nat} {o : Option Nat} (h : val? P b = some o) : (b, o) ∈ P := by
  unfold val? at h
  obtain ⟨e, he, rfl⟩ := Option.map_eq_some_iff.mp h
  have h1 := List.mem_of_find?_eq_some he
  have h2 := List.find?_some he
  have h2 : e.1 = b := by simpa using h2
  rw [← h2]; exact h1
theorem val_none {P : List (Nat × Option Nat)} {b : Nat} (h : val? P b = none) : ¬ ∃ e ∈ P, e.1 = b := by
  unfold val? at h
  rw [Option.map_eq_none_iff, List.find?_eq_none] at h
  rintro ⟨e, he, hb⟩
  exact h e he (by simpa using hb)
theorem sp_not {c : Nat} (h : Unicode.isSpace c = true) : c ≠ 39 ∧ c ≠ 34 ∧ c ≠ 40 ∧ c ≠ 41 := by
  have h1 : Unicode.isSpace 39 = false := by decide +kernel
  have h2 : Unicode.isSpace 34 = false := by decide +kernel
  have h3 : Unicode.isSpace 40 = false := by decide +kernel
  have h4 : Unicode.isSpace 41 = false := by decide +kernel
  refine ⟨?_, ?_, ?_, ?_⟩ <;> rintro rfl <;> simp_all
theorem blank_fold : ∀ l : List Nat, (∀ c ∈ l, Unicode.isSpace c = true) → l.foldl qstep none = none
  | [], _ => rfl
  | c :: r, h => by
    obtain ⟨h1, h2, -, -⟩ := sp_not (h c (.head _))
    rw [List.foldl_cons, show qstep none c = none by simp [qstep, h1, h2]]
    exact blank_fold r fun c hc => h c (.tail _ hc)
/-- the three strips of one text, in its signs -/
theorem strips (x : Str) : ∃ lo hr : Nat, lo ≤ x.length ∧ hr ≤ x.length ∧ ((Txt.lstrip x).length : Int) = (x.length : Int) - lo ∧ (Txt.rstrip x).length = hr ∧ (∀ c ∈ x.cps.toList.take lo, Unicode.isSpace c = true) ∧
    (lo = x.length → (Txt.strip x).length = 0) ∧ (lo < x.length → lo < hr ∧ (Txt.strip x).cps.toList = (x.cps.toList.drop lo).take (hr - lo) ∧ (∀ c ∈ x.cps.toList.drop hr, Unicode.isSpace c = true)) := by
  obtain ⟨h0, h1, h2⟩ := lo_facts Unicode.isSpace x
  obtain ⟨-, k0, k1, k2⟩ := hi_facts Unicode.isSpace x 0 (Nat.zero_le _)
  obtain ⟨m0, m1, m2, m3⟩ := hi_facts Unicode.isSpace x (stripLo Unicode.isSpace true x) h0
  have el : Txt.lstrip x = strSub x (stripLo Unicode.isSpace true x) x.length := by unfold Txt.lstrip; rw [PyProof.Rows.stripBy_eq]; rfl
  have er : Txt.rstrip x = strSub x 0 (stripHi Unicode.isSpace true x 0) := by unfold Txt.rstrip; rw [PyProof.Rows.stripBy_eq]; rfl
  have es : Txt.strip x = strSub x (stripLo Unicode.isSpace true x) (stripHi Unicode.isSpace true x (stripLo Unicode.isSpace true x)) := by unfold Txt.strip; rw [PyProof.Rows.stripBy_eq]
  generalize stripHi Unicode.isSpace true x (stripLo Unicode.isSpace true x) = hs at *
  generalize stripLo Unicode.isSpace true x = lo at *
  generalize stripHi Unicode.isSpace true x 0 = hr at *
  have hn : x.cps.toList.length = x.length := by simp [Str.length]
  have hl : ∀ i j, (strSub x i j).cps.toList = (x.cps.toList.drop i).take (j - i) := fun i j => by rw [strSub_mk]
  refine ⟨lo, hr, h0, k0, ?_, ?_, ?_, ?_, ?_⟩
  · rw [el, len_cps, hl, List.length_take, List.length_drop, hn]; omega
  · rw [er, len_cps, hl, List.length_take, List.length_drop, hn]; omega
  · intro c hc
    obtain ⟨i, hi, rfl⟩ := List.mem_iff_getElem.mp hc
    rw [List.length_take] at hi
    have := h1 i (by omega)
    rw [← getD_list] at this
    rw [List.getElem_take]
    rwa [List.getD_eq_getElem?_getD, List.getElem?_eq_getElem (by omega)] at this
  · intro e
    rw [es, len_cps, hl, List.length_take, List.length_drop, hn]; omega
  · intro hlt
    have hlo : Unicode.isSpace (x.cps.getD lo 0) = false := by
      rcases h2 with h | h
      · omega
      · exact h
    have a1 : lo < hr := by
      by_cases h : lo < hr
      · exact h
      · have := k1 lo (by omega) hlt
        rw [hlo] at this; cases this
    have a2 : lo < hs := by
      by_cases h : lo < hs
      · exact h
      · have := m2 lo (by omega) hlt
        rw [hlo] at this; cases this
    have a3 : hs = hr := by
      rcases Nat.lt_trichotomy hs hr with h | h | h
      · rcases k2 with h' | h'
        · omega
        · have := m2 (hr - 1) (by omega) (by omega)
          rw [h'] at this; cases this
      · exact h
      · rcases m3 with h' | h'
        · omega
        · have := k1 (hs - 1) (by omega) (by omega)
          rw [h'] at this; cases this
    refine ⟨a1, ?_, ?_⟩
    · rw [es, hl, a3]
    · intro c hc
      obtain ⟨i, hi, rfl⟩ := List.mem_iff_getElem.mp hc
      rw [List.length_drop] at hi
      have := k1 (hr + i) (by omega) (by omega)
      rw [← getD_list] at this
      rw [List.getElem_drop]
      rwa [List.getD_eq_getElem?_getD, List.getElem?_eq_getElem (by omega)] at this
end Mine
namespace Mine
open PySem PySem.W PyProof.Rows PySem.Builtin.Str
def BLaw (T : Str) (P : List (Nat × Option Nat)) : Prop :=
  (val? P ((T.length : Int) - ((Txt.lstrip T).length : Int)).toNat = none → sopF T = T) ∧ (val? P ((T.length : Int) - ((Txt.lstrip T).length : Int)).toNat = some none → sopF T = T) ∧
  (∀ k : Nat, val? P ((T.length : Int) - ((Txt.lstrip T).length : Int)).toNat = some (some k) → (k : Int) = ((Txt.rstrip T).length : Int) - 1 → sopF T = Txt.slice T (some ((T.length : Int) - ((Txt.lstrip T).length : Int) + 1)) (some (((Txt.rstrip T).length : Int) - 1))) ∧
  (∀ k : Nat, val? P ((T.length : Int) - ((Txt.lstrip T).length : Int)).toNat = some (some k) → (k : Int) ≠ ((Txt.rstrip T).length : Int) - 1 → sopF T = T)
theorem beq_of {x y : Str} (h : x = y) : (x == y) = true := by subst h; exact beq_self_eq_true _
theorem lstrip_len (x : Str) : (Txt.lstrip x).length ≤ x.length := by
  obtain ⟨lo, hr, h1, h2, h3, -⟩ := strips x
  omega
theorem rstrip_len (x : Str) : (Txt.rstrip x).length ≤ x.length := by
  obtain ⟨lo, hr, h1, h2, h3, h4, -⟩ := strips x
  omega
theorem sop_no {T : Str} (h : ∀ k, scan (Txt.strip T).cps.toList 0 none 0 = some k → (k : Int) ≠ ((Txt.strip T).length : Int) - 1) : sopF T = T := by
  by_cases h1 : ((Txt.strip T).length : Int) < 2
  · exact sop_1 h1
  cases h2 : (Txt.item (Txt.strip T) 0 != Str.ofString "(") with
  | true => exact sop_2 h1 h2
  | false =>
    cases h3 : (Txt.item (Txt.strip T) (-1) != Str.ofString ")") with
    | true => exact sop_3 h1 h2 h3
    | false =>
      cases h4 : scan (List.drop (Int.toNat 0) (Txt.strip T).cps.toList) 0 none (Int.toNat 0) with
      | none => exact sop_4 h1 h2 h3 h4
      | some k => exact sop_6 h1 h2 h3 h4 (h k h4)
theorem scan_trim {u sp : List Nat} {d : Int} {q : Option Nat} {i : Nat} (h : 41 ∉ sp) : scan (u ++ sp) d q i = scan u d q i := by
  rw [scan_run, scan_run, run_app]
  cases run u d q i with
  | inl j => rfl
  | inr z =>
    obtain ⟨d', q'⟩ := z
    obtain ⟨z, hz⟩ := run_blank (l := sp) (d := d') (q := q') (i := i + u.length) h
    dsimp only
    rw [hz]
theorem scan_shift (s : Nat) (l : List Nat) (d : Int) (q : Option Nat) (i : Nat) : scan l d q (i + s) = (scan l d q i).map (· + s) := by
  rw [scan_run, scan_run, run_shift]
  cases run l d q i <;> rfl
theorem scan_found {l : List Nat} {d : Int} {q : Option Nat} {i j : Nat} (h : scan l d q i = some j) : i ≤ j ∧ l[j - i]? = some 41 := by
  rw [scan_run] at h
  cases e : run l d q i with
  | inl k => rw [e] at h; cases h; exact run_found e
  | inr z => rw [e] at h; cases h
theorem slice_last {x : Str} (h : 1 ≤ x.length) (l : Option Int) : Txt.slice x l (some (-1)) = Txt.slice x l (some ((x.length : Int) - 1)) := by
  unfold Txt.slice
  rw [StrLaws.sliceIdx_neg_hi l x.length (by omega) (by omega), show (-1 : Int) + (x.length : Int) = (x.length : Int) - 1 by omega]
theorem slice_in {x : Str} {i j : Int} (h0 : 0 ≤ i) (h1 : i ≤ j) (h2 : j ≤ x.length) : Txt.slice x (some i) (some j) = ⟨((x.cps.toList.drop i.toNat).take (j - i).toNat).toArray⟩ := by
  simpa using slice_closesL h0 h1 h2
theorem item_last {x : Str} {c : Nat} (h : 1 ≤ x.length) (hc : x.cps[x.length - 1]? = some c) : Txt.item x (-1) = ⟨#[c]⟩ := by
  unfold Txt.item Txt.charAt
  rw [PySem.seqIndex_neg (k := -1) (n := x.length) (by omega) (by omega)]
  rw [show ((-1 : Int) + (x.length : Int)).toNat = x.length - 1 by omega]
  show (⟨#[(x.cps[x.length - 1]?).getD 0]⟩ : Str) = _
  rw [hc]; rfl
theorem law_B {ps : List Str} (h : OkPieces ps) : BLaw (Txt.join (Str.ofString "") ps) (pairsF ps).1 := by
  obtain ⟨q, I⟩ := inv_pieces h
  generalize Txt.join (Str.ofString "") ps = T at *
  generalize hst : pairsF ps = st at *
  obtain ⟨lo, hr, hlo, hhr, el, er, hsp, hz, hs⟩ := strips T
  have hn : T.cps.toList.length = T.length := by simp [Str.length]
  have hb : ((T.length : Int) - ((Txt.lstrip T).length : Int)) = (lo : Int) := by omega
  unfold BLaw
  rw [hb, er, Int.toNat_natCast]
  have hlt : ∀ o, val? st.1 lo = some o → lo < T.length ∧ T.cps.toList[lo]? = some 40 ∧ scan (T.cps.toList.drop lo) 0 none lo = o := by
    intro o ho
    have hm := val_mem ho
    have h1 := I.at40 _ hm
    refine ⟨?_, h1, I.scan hm⟩
    have := lt_of_at h1
    omega
  have hscan : ∀ o, val? st.1 lo = some o → (scan (Txt.strip T).cps.toList 0 none 0).map (· + lo) = o := by
    intro o ho
    obtain ⟨h1, h2, h3⟩ := hlt o ho
    obtain ⟨a1, a2, a3⟩ := hs h1
    have hcut : T.cps.toList.drop lo = (Txt.strip T).cps.toList ++ T.cps.toList.drop hr := by
      rw [a2]
      have := List.take_append_drop (hr - lo) (T.cps.toList.drop lo)
      rw [List.drop_drop, show lo + (hr - lo) = hr by omega] at this
      exact this.symm
    rw [hcut, scan_trim (fun hm => (sp_not (a3 _ hm)).2.2.2 rfl)] at h3
    rw [← h3]
    have := scan_shift lo (Txt.strip T).cps.toList 0 none 0
    rw [Nat.zero_add] at this
    exact this.symm
  have hslen : lo < T.length → (Txt.strip T).length = hr - lo := by
    intro h1
    obtain ⟨a1, a2, a3⟩ := hs h1
    rw [len_cps, a2, List.length_take, List.length_drop, hn]; omega
  refine ⟨?_, ?_, ?_, ?_⟩
  · intro hv
    rcases Nat.lt_or_ge lo T.length with h1 | h1
    · obtain ⟨a1, a2, a3⟩ := hs h1
      by_cases h2 : ((Txt.strip T).length : Int) < 2
      · exact sop_1 h2
      refine sop_2 h2 ?_
      obtain ⟨c, -, hc, hk⟩ := item_at (Txt.strip T) (i := 0) (by omega) (by omega)
      have hc' : T.cps.toList[lo]? = some c := by
        rw [← Array.getElem?_toList, a2, show (0 : Int).toNat = 0 from rfl, List.getElem?_take_of_lt (by omega), List.getElem?_drop] at hc
        exact hc
      have hne : c ≠ 40 := by
        rintro rfl
        exact val_none hv (I.keys lo hc' (blank_fold _ hsp))
      show (!(Txt.item (Txt.strip T) 0 == Str.ofString "(")) = true
      rw [q40, hk, decide_eq_false hne]; rfl
    · exact sop_1 (by have := hz (by omega); omega)
  · intro hv
    refine sop_no fun k hk => ?_
    have := hscan _ hv
    rw [hk] at this
    cases this
  · intro k hv hk
    obtain ⟨h1, h2, h3⟩ := hlt _ hv
    obtain ⟨a1, a2, a3⟩ := hs h1
    have hl := hslen h1
    obtain ⟨f1, f2⟩ := scan_found h3
    have hkl : k ≠ lo := by
      rintro rfl
      rw [Nat.sub_self, List.getElem?_drop, Nat.add_zero, h2] at f2
      cases f2
    rw [List.getElem?_drop, show lo + (k - lo) = k by omega] at f2
    have hsc := hscan _ hv
    obtain ⟨j, hj, hjk⟩ := Option.map_eq_some_iff.mp hsc
    have hsl : ∀ i, i < hr - lo → (Txt.strip T).cps[i]? = T.cps.toList[lo + i]? := by
      intro i hi
      rw [← Array.getElem?_toList, a2, List.getElem?_take_of_lt hi, List.getElem?_drop]
    rw [sop_5 (k := j) (by omega) ?_ ?_ hj (by omega)]
    · rw [slice_last (by omega), slice_in (by omega) (by omega) (by omega), slice_in (by omega) (by omega) (by omega), a2]
      rw [show (((Txt.strip T).length : Int) - 1 - 1).toNat = hr - lo - 2 by omega, show (1 : Int).toNat = 1 from rfl, show ((lo : Int) + 1).toNat = lo + 1 by omega, show ((hr : Int) - 1 - ((lo : Int) + 1)).toNat = hr - lo - 2 by omega]
      rw [List.drop_take, List.take_take, List.drop_drop, show min (hr - lo - 2) (hr - lo - 1) = hr - lo - 2 by omega]
    · show (!(Txt.item (Txt.strip T) 0 == Str.ofString "(")) = false
      rw [item_meets (n := 40) (by omega) (by rw [show (0 : Int).toNat = 0 from rfl, hsl 0 (by omega)]; exact h2), q40]
      simp
    · show (!(Txt.item (Txt.strip T) (-1) == Str.ofString ")")) = false
      rw [item_last (c := 41) (by omega) (by rw [hsl _ (by omega), ← f2]; congr 1; omega), q41]
      simp
  · intro k hv hk
    refine sop_no fun j hj => ?_
    have hsc := hscan _ hv
    rw [hj] at hsc
    have : j + lo = k := by simpa using hsc
    obtain ⟨h1, -, -⟩ := hlt _ hv
    have := hslen h1
    obtain ⟨a1, -, -⟩ := hs h1
    omega
end Mine
namespace Mine
open PySem PySem.W PyProof.Rows PyProof.Rows.LCg
set_option maxRecDepth 100000
set_option maxHeartbeats 4000000
theorem good_snoc {ps : List Str} {y : Str} (hg : ∀ y ∈ ps, Good y ∧ y.length ≤ 100) (h0 : Good y ∧ y.length ≤ 100) : ∀ z ∈ ps ++ [y], Good z ∧ z.length ≤ 100 := by
  intro z hz
  rcases List.mem_append.mp hz with h | h
  · exact hg z h
  · rw [List.mem_singleton.mp h]; exact h0
theorem good_br {r : Int} (h0 : 0 ≤ r) (h1 : r < 2) : Good (Txt.item (Str.ofString "()") r) ∧ (Txt.item (Str.ofString "()") r).length ≤ 100 := by
  have : r = 0 ∨ r = 1 := by omega
  rcases this with rfl | rfl
  · exact ⟨(by decide +kernel : Str.ofString "(" = Txt.item (Str.ofString "()") 0) ▸ Good.opens, by decide +kernel⟩
  · exact ⟨(by decide +kernel : Str.ofString ")" = Txt.item (Str.ofString "()") 1) ▸ Good.closes, by decide +kernel⟩
def menu7 : List Str := [Str.ofString "a", Str.ofString " ", Str.ofString "AND ", Str.ofString ",", Str.ofString "\\", Str.ofString "\t", Str.ofString "\n"]
theorem good_menu7 : ∀ y ∈ menu7, Good y ∧ y.length ≤ 100 := by
  have h : ∀ y ∈ menu7, (∀ c ∈ y.cps.toList, c ≠ 39 ∧ c ≠ 34 ∧ c ≠ 40 ∧ c ≠ 41) ∧ y.length ≤ 100 := by decide +kernel
  exact fun y hy => ⟨.plain (h y hy).1, (h y hy).2⟩
theorem getD_mem {l : List Str} {n : Nat} (h : n < l.length) : l.getD n Str.empty ∈ l := by
  rw [List.getD_eq_getElem?_getD, List.getElem?_eq_getElem h]
  exact List.getElem_mem h
theorem good_m7 {r : Int} (h0 : 0 ≤ r) (h1 : r < 7) : Good (menu7.getD r.toNat Str.empty) ∧ (menu7.getD r.toNat Str.empty).length ≤ 100 :=
  good_menu7 _ (getD_mem (by show r.toNat < 7; omega))
theorem item_strsT {prog : Program} {w : World} {A : Around} {E : Value → Shared → Prop} {s : Shared} {value slice : PySem.Expr} {a : Addr} {l : List Value} {ys : List Str} {k : Int} {u : Tok} {Q : Value → Shared → Prop} (hl : s.heap.IsList a l.toArray) (hi : StrsAre l ys)
    (h0 : 0 ≤ k) (hk : k < ys.length) (hfit : k < 2 ^ 63) (h : ∀ t', Q (.str (ys.getD k.toNat Str.empty) t') s)
    (hs : subscripted slice false (.ref a) (.int k u) = operate [.ref a, .int k u] (getItem (.ref a) (.int k u)) := by with_unfolding_all rfl) :
    wpAny (model prog w) A (subscriptTail value slice (.ref a) (.int k u)) Q E s := by
  have hlt : k.toNat < ys.length := by omega
  have e : ys[k.toNat]? = some (ys.getD k.toNat Str.empty) := by simp [List.getD, hlt]
  obtain ⟨t, ht⟩ := hi.at e
  exact tail_any hl.typeIs slot_list_getitem.lookup (wpAny_getItem_list hl h0 hfit (by simpa using ht) (h t)) hs
local macro_rules | `(tactic| walk_at "callWith") => `(tactic| ((with_reducible show wpAny _ _ (callWith _ (Value.builtin "list.append") [Value.ref _] _ _) _ _ _); refine callWith_method1 ?_))
local macro_rules | `(tactic| walk_at "call builtin:list.append") => `(tactic| (k_here; (with_reducible show wpAny _ _ (call (Value.builtin _) [Value.ref _, _]) _ _ _); k_dflt (refine' append_K ?k1 ?k2 ?k3 ?_ ?z; (case k1 => k_asm); (case k2 => k_asm); (case k3 => k_upd); (case z => ((rw [List.size_toArray, sizeLine_eq]); omega)); k_whole); intro h' F' N'; (try simp only [List.push_toArray] at N')))
local macro_rules | `(tactic| walk_at "subscriptTail") => `(tactic| (k_here; (with_reducible show wpAny _ _ (subscriptTail _ _ (Value.ref _) (Value.int _ _)) _ _ _); k_dflt (refine' item_strsT ?k1 ?k2 ?k3 ?k4 ?k5 ?_ ?k6; (case k1 => exact News.isList (by assumption) (by k_mem)); (case k2 => first | exact (StrsAre.cons _ _ (StrsAre.cons _ _ StrsAre.nil)) | exact (StrsAre.cons _ _ (StrsAre.cons _ _ (StrsAre.cons _ _ (StrsAre.cons _ _ (StrsAre.cons _ _ (StrsAre.cons _ _ (StrsAre.cons _ _ StrsAre.nil))))))) | exact (StrsAre.cons _ _ (StrsAre.cons _ _ (StrsAre.cons _ _ (StrsAre.cons _ _ (StrsAre.cons _ _ (StrsAre.cons _ _ (StrsAre.cons _ _ (StrsAre.cons _ _ StrsAre.nil))))))))); (case k3 => omega); (case k4 => ((simp only [List.length_cons, List.length_nil]); omega)); (case k5 => omega); (case k6 => with_unfolding_all rfl); k_whole); intro t8))
local macro_rules | `(tactic| walk_at "call ref") => `(tactic| (k_here; (with_reducible show wpAny _ _ (call (Value.ref 36) _) _ _ _); k_dflt (refine' next_call ?k1 ?k2 ?k3 ?k4 ?k5 ?kK ?kU ?kl ?kn ?ki ?kz ?kb ?k6 ?k7 ?kd ?ku ?_; (case k2 => k_asm); (case k1 => k_asm); (case k3 => k_asm); (case k4 => k_asm); (case k5 => k_asm); (case kK => rfl); (case kU => k_updF); (case kl => k_mem); (case kn => k_ne); (case ki => k_asm); (case kz => first | assumption | omega); (case kb => first | assumption | omega); (case k6 => omega); (case k7 => omega); (case kd => ktr_room); (case ku => ktr_units); intro r9 i9 x9 t9 ti9 tx9 h9 tk9 hr9 hr9' hb9 F9 N9; (try dsimp only at N9); (try k_fold))))
local macro_rules | `(tactic| walk_at "call builtin:str.join") => `(tactic| (k_here; (with_reducible show wpAny _ _ (call (Value.builtin _) [Value.str _ _, Value.ref _]) _ _ _); k_dflt (refine' join_listW ?k1 ?k2 ?k3 ?k4 ?_; (case k1 => exact News.isList (by assumption) (by k_mem)); (case k2 => assumption); (case k3 => decide +kernel); (case k4 => first | exact (join3 (by assumption) (by assumption)).2 | exact dblS_fits (by assumption) | assumption); k_whole); intro t8 k8))
local macro_rules | `(tactic| walk_at "call ref") => `(tactic| (k_here; (with_reducible show wpAny _ _ (call (Value.ref 43) _) _ _ _); k_dflt (refine' pairs_call _ ?k1 ?k2 ?k3 ?k4 ?k5 ?kK ?ky ?kyl ?kyy ?kd ?ku ?_; (case k2 => k_asm); (case k1 => k_asm); (case k3 => k_asm); (case k4 => k_asm); (case k5 => k_asm); (case kK => rfl); (case ky => assumption); (case kyl => omega); (case kyy => assumption); (case kd => ktr_room); (case ku => ktr_units); intro d9 od9 kvs9 h9 tk9 hod9 hkv9 hkl9 lo9 hr9 hl9 F9 N9; (try k_lt hr9); (try k_fold))))
local macro_rules | `(tactic| walk_at "call ref") => `(tactic| (k_here; (with_reducible show wpAny _ _ (call (Value.ref 29) _) _ _ _); k_dflt (refine' sop_call _ ?k1 ?k2 ?k3 ?k4 ?k5 ?kK ?kl ?kd ?ku ?_; (case k2 => k_asm); (case k1 => k_asm); (case k3 => k_asm); (case k4 => k_asm); (case k5 => k_asm); (case kK => rfl); (case kl => omega); (case kd => ktr_room); (case ku => ktr_units); intro t9 h9 tk9 F9 N9; (try k_fold))))
local macro_rules | `(tactic| walk_at "call ref") => `(tactic| (k_here; (with_reducible show wpAny _ _ (call (Value.ref 22) _) _ _ _); k_dflt (refine' fmp_call _ ?k1 ?k2 ?k3 ?k4 ?k5 ?kK ?kl ?k0 ?ks ?kd ?ku ?_; (case k2 => k_asm); (case k1 => k_asm); (case k3 => k_asm); (case k4 => k_asm); (case k5 => k_asm); (case kK => rfl); (case kl => omega); (case k0 => omega); (case ks => assumption); (case kd => ktr_room); (case ku => ktr_units); intro t9 h9 tk9 F9 N9; (try k_fold))))
local macro_rules | `(tactic| walk_at "call type:list") => `(tactic| (k_here; (with_reducible show wpAny _ _ (call (Value.type "list") [Value.ref _]) _ _ _); k_dflt (refine' kdl_list_valuesP (knd := PySem.intKind _ _) ?k1 ?k2 ?k3 ?k4 ?k5 ?k6 ?k7 ?_; (case k1 => rfl); (case k2 => k_asm); (case k3 => k_asm); (case k4 => k_mem); (case k5 => k_mem); (case k6 => k_asm); (case k7 => omega)); intro D' c' h' tk' F' N' l1; (try k_lt l1)))
local macro_rules | `(tactic| walk_at "compareOp NotEq ref ref") => `(tactic| (k_here; (with_unfolding_all refine' ne_opts ?k1 ?k2 ?k3 ?k4 ?k5 ?_; (case k1 => is_list); (case k2 => assumption); (case k3 => is_list); (case k4 => exact KvRel.vals (by assumption)); (case k5 => ktr_units); k_whole)))
theorem in_P {prog : Program} {w : World} {A : Around} {E : Value → Shared → Prop} {s : Shared} {h₀ : Heap} {L d : Addr} {news : List (Addr × Obj)} {od : Obj} {kvs : List (Int × Value)} {P : List (Nat × Option Nat)} {Q : Value → Shared → Prop} {bi : Int} {tb : Tok}
    (N : News h₀ L s.heap news) (hp : (d, od) ∈ news) (hd : od.IsDictOf (PySem.intKind prog w) kvs) (lo : (d == sysModules) = false) (hkv : KvRel kvs P) (h0 : 0 ≤ bi)
    (h1 : val? P bi.toNat = none → Q (.bool false) { s with toks := s.toks + 1 })
    (h2 : val? P bi.toNat = some none → valueAt kvs bi = some .none → Q (.bool true) { s with toks := s.toks + 1 })
    (h3 : ∀ (k : Nat) (t : Tok), val? P bi.toNat = some (some k) → valueAt kvs bi = some (.int (k : Int) t) → Q (.bool true) { s with toks := s.toks + 1 }) :
    wpAny (model prog w) A (compareOp .In (.int bi tb) (.ref d)) Q E s := by
  obtain ⟨b, rfl⟩ := Int.eq_ofNat_of_zero_le h0
  rw [Int.toNat_natCast] at h1 h2 h3
  cases hv : val? P b with
  | none =>
    refine kda_in (knd := PySem.intKind _ _) N hp hd lo (intKind_is _ _ _ _) false ?_ (h1 hv)
    rw [hkv.none hv]; rfl
  | some o =>
    obtain ⟨t, e⟩ := hkv.some hv
    refine kda_in (knd := PySem.intKind _ _) N hp hd lo (intKind_is _ _ _ _) true ?_ ?_
    · rw [e]; rfl
    · cases o with
      | none => exact h2 hv e
      | some k => exact h3 k t hv e
local macro_rules | `(tactic| walk_at "compareOp In int ref") => `(tactic| (k_here; k_dflt (refine' in_P ?k1 ?k2 ?k3 ?k4 ?k5 ?k6 ?_ ?_ ?_; (case k1 => k_asm); (case k2 => k_mem); (case k3 => k_asm); (case k4 => k_asm); (case k5 => assumption); (case k6 => omega)); (first | ((with_reducible show val? _ _ = none → _); intro hv9; k_whole) | ((with_reducible show val? _ _ = some none → _); intro hv9 hat9; k_whole) | (intro k9 t9 hv9 hat9; k_whole))))
local macro_rules | `(tactic| walk_at "subscriptTail") => `(tactic| (k_here; (with_reducible show wpAny _ _ (subscriptTail _ _ (Value.ref _) (Value.int _ _)) _ _ _); k_dflt (refine' kda_item (knd := PySem.intKind _ _) ?k1 ?k2 ?k3 ?k4 ?k5 ?_ ?k6 ?k7; (case k1 => k_asm); (case k2 => k_mem); (case k3 => k_asm); (case k4 => exact intKind_is _ _ _ _); (case k5 => assumption); (case k6 => with_unfolding_all rfl); (case k7 => (intro _; with_unfolding_all rfl)); k_whole)))
theorem news_ne {h₀ h : Heap} {L a b : Addr} {o o' : Obj} {all : List (Addr × Obj)} (N : News h₀ L h all) (h1 : (a, o) ∈ all) (h2 : (b, o') ∈ all) (hne : o ≠ o') : @Ne Nat a b := by
  intro e
  have e1 := N.get h1
  have e2 := N.get h2
  rw [show a = b from e, e2] at e1
  exact hne (Option.some.inj e1).symm
theorem seq_ne {o o' : Obj} {vs : Array Value} {c : Option Value} (h1 : o.data = .seq vs) (h2 : o'.data = .cell c) : o ≠ o' := by
  intro e; rw [e, h2] at h1; cases h1
theorem law_holds : PySem.Challenge.rw_eu0028_01.Holds := hd (by
  w_top off
  w_strict (k_go0)
  all_goals try k_fold
  iterate 46 (first | (k_unfold; (try dsimp only)) | (k_end; wrow_close) | walk1 | (dsimp only; walk1) | (leave1; (try dsimp only)) | fail "no step")
  rename_i hA tkA oT oI oM oS0 dT dI dM dS0 X0 qk0 ek0 l0 ws hB hI' hC' hL' q1 st hC q2 hD oS dS tkB pc hE q3 hF lF' N0 r9 i9 x9 t9 ti9 tx9 h9 tk9 hr9 hr9' hb9 F9 N9 hG tkG t1 u1 v1 hrng F10 N10 hkeep
  (with_unfolding_all refine' iter_LJ (pc := pc) (st := st) (l0 := l0) (oT := oT) (oS := oS) rfl rfl hrng hr9 hr9' F10 N10 ?hnw hb9 dM dI ?turn ?done)
  case hnw => exact fun p hp => hp
  case done =>
    intro h tk i' x' ti tx nst on pvs ps oM oI cm ci u hb hM hI hps hpl hg F1 N1
    clear N10 F10 N9 F9 N0 lF' hrng
    dsimp only
    have hpvl : pvs.length ≤ 13 := by have := hps.length; omega
    iterate 14 (first | (k_unfold; (try dsimp only)) | (k_end; wrow_close) | walk1 | (dsimp only; walk1) | (leave1; (try dsimp only)) | fail "no step")
    rename_i rL iL xL tL tiL txL hL9 tkL9 hrL hrL' hbL hS FS NS
    clear F1 N1
    (with_unfolding_all refine' cut_RL (oT := oT) FS NS ?hTT ?ifs ?rest)
    case hTT => k_mem
    case ifs =>
      repeat' ((fail_if_success (with_reducible show wpAny _ _ (eval (Expr.ListComp _ _ _ _) _) _ _ _)); (fail_if_success (with_reducible show TurnPost _ _ _ _ _ _ _ _ _)); first | (k_unfold; (try dsimp only)) | (k_end; wrow_close) | walk1 | (dsimp only; walk1) | (leave1; try dsimp only) | fail "no step")
      · exfalso; omega
      · exfalso; omega
      · exact rl_intro (pcX := pc) (by assumption) (by assumption) (by with_unfolding_all exact .tail _ (.head _)) (by k_mem) (by omega) (by with_unfolding_all rfl) (StrsAre.append' ‹StrsAre pvs ps› (.cons _ _ .nil)) (pc_open (by assumption) (by assumption) hpl hg)
      · exact rl_intro (by assumption) (by assumption) (by with_unfolding_all exact .head _) (by k_mem) (news_ne (by assumption) (.head _) (by k_mem) (seq_ne rfl dT)) (by with_unfolding_all rfl) (StrsAre.append' (StrsAre.append' (.cons _ _ (.cons _ _ .nil)) ‹StrsAre pvs ps›) (.cons _ _ (.cons _ _ .nil))) (pc_wrap hpl hg)
      · exact rl_intro (by assumption) (by assumption) (by with_unfolding_all exact .head _) (by k_mem) (news_ne (by assumption) (.head _) (by k_mem) (seq_ne rfl dT)) (by with_unfolding_all rfl) (StrsAre.append' (StrsAre.append' (.cons _ _ (.cons _ _ .nil)) ‹StrsAre pvs ps›) (.cons _ _ (.cons _ _ .nil))) (pc_wrap hpl hg)
      · exact rl_intro (pcX := pc) (by assumption) (by assumption) (by k_mem) (by k_mem) (by omega) (by with_unfolding_all rfl) ‹StrsAre pvs ps› (pc_plain hpl hg)
    case rest =>
      clear FS NS
      intro h tk pcX onX pvs' ps' u' F2 N2 hne2 hps2 hok2
      have hfits := pc_fits hok2
      have hlen2 := pc_len hok2
      have hA := law_A hok2.1
      have hpl2 := hok2.2.1
      have hpb2 : ∀ y ∈ ps', y.length ≤ 1000 := fun y hy => Nat.le_trans (hok2.2.2 y hy) (by decide)
      have hpv2 : pvs'.length ≤ 20 := by have := hps2.length; omega
      repeat' ((fail_if_success (with_reducible show wpAny _ _ (eval (Expr.ListComp _ _ _ _) _) _ _ _)); (fail_if_success (with_reducible show TurnPost _ _ _ _ _ _ _ _ _)); first | (k_unfold; (try dsimp only)) | (k_end; wrow_close) | walk1 | (dsimp only; walk1) | (leave1; try dsimp only) | fail "no step")
      rename_i t8P k8P dP odP kvsP hP9 tkP9 hodP hkvP hklP loP hlP hrP DP hP1 lP hP2 hP3 oP dCP hP4 FP NP
      k_dflt (refine ListComp_W (_F₀ := by k_asm) (by with_unfolding_all rfl) (by decide) (by rfl) (by decide) (by rfl) ?_)
      iterate 1 (first | (k_unfold; (try dsimp only)) | (k_end; wrow_close) | walk1 | (dsimp only; walk1) | (leave1; (try dsimp only)) | fail "no step")
      (with_unfolding_all refine' src_M (P := (pairsF ps').1) rfl FP NP ?hdm hodP loP hkvP ?hsz ?turn4 ?fin4)
      case hdm => k_mem
      case hsz => omega
      case turn4 =>
        intro k o t ys I oIt C oC D m₂ h tk E' Z hmem hnC hmx F3 N3 off ne hZ
        clear NP FP
        k_fold
        have h40 : (Txt.join (Str.ofString "") ps').cps[((k : Nat) : Int).toNat]? = some 40 := (hA _ hmem).1
        have hsc : scan ((Txt.join (Str.ofString "") ps').cps.toList.drop ((k : Nat) : Int).toNat) 0 none ((k : Nat) : Int).toNat = o := (hA _ hmem).2
        clear hA
        repeat' ((fail_if_success (with_reducible show CompEnd _ _ _ _ _ _ _ _ _ _ _ _ _ _)); (fail_if_success (with_reducible show wpAny _ _ (eval (Expr.ListComp _ _ _ _) _) _ _ _)); (fail_if_success (with_reducible show TurnPost _ _ _ _ _ _ _ _ _)); first | (k_unfold; (try dsimp only)) | (k_end; wrow_close) | walk1 | (dsimp only; walk1) | (leave1; try dsimp only) | fail "no step")
        show CompEnd _ _ _ _ _ _ _ _ _ _ _ _ _ _
        rw [hsc]
        exact CompEnd.intro (by assumption) (by assumption) _ (fun p hp => hp) off (by k_mem) (hZ _)
      case fin4 =>
        intro ys D h tk hys F3 N3 o3
        clear NP FP
        have hB := law_B hok2.1
        have hll := lstrip_len (Txt.join (Str.ofString "") ps')
        have hrl := rstrip_len (Txt.join (Str.ofString "") ps')
        repeat' ((fail_if_success (with_reducible show GoodW _ _ _ _ _ _ _)); (fail_if_success (with_reducible show wpAny _ _ (eval (Expr.ListComp _ _ _ _) _) _ _ _)); (fail_if_success (with_reducible show TurnPost _ _ _ _ _ _ _ _ _)); first | (k_unfold; (try dsimp only)) | (k_end; wrow_close) | walk1 | (dsimp only; walk1) | (leave1; try dsimp only) | fail "no step")
        · rw [beq_of (hB.1 (by assumption))]
          k_end; wrow_close
        · rw [beq_of (hB.2.1 (by assumption))]
          k_end; wrow_close
        · rw [beq_of (hB.2.2.1 _ (by assumption) (by assumption))]
          k_end; wrow_close
        · rw [beq_of (hB.2.2.2 _ (by assumption) (by assumption))]
          k_end; wrow_close
  case turn =>
    intro i v h tk I oIt i' x' ti tx nst on pvs ps oM oI cm ci u hi hb hM hI hps hpl hg F1 N1 hne
    clear N10 F10 N9 F9 N0 lF' hrng
    k_fold
    have hpvl : pvs.length ≤ 13 := by have := hps.length; omega
    repeat' ((fail_if_success (with_reducible show wpAny _ _ (eval (Expr.ListComp _ _ _ _) _) _ _ _)); (fail_if_success (with_reducible show TurnPost _ _ _ _ _ _ _ _ _)); first | (k_unfold; (try dsimp only)) | (k_end; wrow_close) | walk1 | (dsimp only; walk1) | (leave1; try dsimp only) | fail "no step")
    · show TurnEnd _ _ _ _ _ _ _
      exact LJ_end (by k_asm) (by k_asm) (by k_mem) (by k_mem) (by k_mem) (by k_mem) (by k_mem) (by k_mem) (by k_mem) (by k_mem) hne (by assumption) hM hI (StrsAre.append' hps (.cons _ _ .nil)) (by rw [List.length_append]; simp only [List.length_cons, List.length_nil]; omega)
        (good_snoc hg (good_br (by assumption) (by assumption))) (by intro z h1 h2 h3; simp only [if_neg h1, if_neg h2, if_neg h3])
    · rename_i rB iB xB tB tiB txB hB9 tkB9 hrB hrB' hbB kxi hm1 oMk dMk tkm li hm2 l1 hm3 oIn FI NI dIn
      k_dflt (refine LCg.ListComp_U (F₀ := by k_asm) (by with_unfolding_all rfl) (by decide) (by rfl) (by decide) (by rfl) ?_)
      iterate 17 (first | (k_unfold; (try dsimp only)) | (k_end; wrow_close) | walk1 | (dsimp only; walk1) | (leave1; (try dsimp only)) | fail "no step")
      rename_i rC iC xC tC tiC txC hC9 tkC9 hrC hrC' hbC FC NC hr1 tkr tr1 ur1 vr1 hrgC FR NR kpR
      clear NC FC NI FI
      (with_unfolding_all refine' src_CJ rfl FR NR hrgC hrC hrC' hbC ?turn2 ?fin2)
      case turn2 =>
        intro ys i' x' ti tx nst I2 oI2 C oC D m₂ h tk g E' Z hb hnC F2 N2 off ne hZ
        clear NR FR kpR
        k_fold
        have hs3 := Off3.mem off _ (.tail _ (.tail _ (.tail _ (.head _))))
        have hs31 : @Ne Nat st I2 := hs3.1
        have hs32 : @Ne Nat st C := hs3.2.1
        have hs33 : @Ne Nat st D := hs3.2.2
        clear hs3
        iterate 14 (first | (k_unfold; (try dsimp only)) | (k_end; wrow_close) | walk1 | (dsimp only; walk1) | (leave1; (try dsimp only)) | fail "no step")
        rename_i rD iD xD tD tiD txD hD9 tkD9 hrD hrD' hbD FD ND t8
        show CompEnd _ _ _ _ _ _ _ _ _ _ _ _ _ _
        exact CompEnd.intro FD ND _ (fun p hp => hp) off trivial (hZ _ _ _ _ _ _ (len_menu8 hrD hrD') hbD)
      case fin2 =>
        intro ys zs i' x' ti tx nst D h tk hz hz3 hz2 hb F2 N2 o1
        have hJ := join3 hz3 hz2
        have hJ1 := hJ.1
        clear NR FR kpR
        repeat' ((fail_if_success (with_reducible show wpAny _ _ (eval (Expr.ListComp _ _ _ _) _) _ _ _)); (fail_if_success (with_reducible show TurnPost _ _ _ _ _ _ _ _ _)); first | (k_unfold; (try dsimp only)) | (k_end; wrow_close) | walk1 | (dsimp only; walk1) | (leave1; try dsimp only) | fail "no step")
        k_dflt (refine ListComp_W (_F₀ := by k_asm) (by with_unfolding_all rfl) (by decide) (by rfl) (by decide) (by rfl) ?_)
        iterate 1 (first | (k_unfold; (try dsimp only)) | (k_end; wrow_close) | walk1 | (dsimp only; walk1) | (leave1; (try dsimp only)) | fail "no step")
        rename_i t8J k8J hJ9 FJ NJ
        (with_unfolding_all refine' src_DBL (mark := Txt.item (Str.ofString "'\"") rB) rfl FJ NJ hJ.1 ?turn3 ?fin3)
        case turn3 =>
          intro c t ys3 I3 oI3 C oC D3 m₂ h tk E' Z hnC hmx F3 N3 off ne hZ
          clear NJ FJ
          k_fold
          repeat' ((fail_if_success (with_reducible show CompEnd _ _ _ _ _ _ _ _ _ _ _ _ _ _)); (fail_if_success (with_reducible show wpAny _ _ (eval (Expr.ListComp _ _ _ _) _) _ _ _)); (fail_if_success (with_reducible show TurnPost _ _ _ _ _ _ _ _ _)); first | (k_unfold; (try dsimp only)) | (k_end; wrow_close) | walk1 | (dsimp only; walk1) | (leave1; try dsimp only) | fail "no step")
          · show CompEnd _ _ _ _ _ _ _ _ _ _ _ _ _ _
            exact CompEnd.intro F3 N3 _ (fun p hp => hp) off trivial (hZ _ _ (dblS_t (by assumption)))
          · show CompEnd _ _ _ _ _ _ _ _ _ _ _ _ _ _
            exact CompEnd.intro F3 N3 _ (fun p hp => hp) off trivial (hZ _ _ (dblS_f (by assumption)))
        case fin3 =>
          intro ys3 D3 h tk hz3 F3 N3 o3
          clear NJ FJ
          have hq := good_quoted hrB hrB' hJ.1
          have hq2 := hq.2
          rw [len_app, len_app] at hq2
          have e1 : @Ne Nat pc D3 := o3.2.2.2.1
          have e2 : @Ne Nat pc D := o1.2.2.1
          repeat' ((fail_if_success (with_reducible show wpAny _ _ (eval (Expr.ListComp _ _ _ _) _) _ _ _)); (fail_if_success (with_reducible show TurnPost _ _ _ _ _ _ _ _ _)); first | (k_unfold; (try dsimp only)) | (k_end; wrow_close) | walk1 | (dsimp only; walk1) | (leave1; try dsimp only) | fail "no step")
          show TurnEnd _ _ _ _ _ _ _
          exact LJ_end (by k_asm) (by k_asm) (by k_mem) (by k_mem) (by k_mem) (by k_mem) (by k_mem) (by k_mem) (by k_mem) (by k_mem) hne hb dMk dIn (StrsAre.append' hps (.cons _ _ .nil)) (by rw [List.length_append]; simp only [List.length_cons, List.length_nil]; omega)
            (good_snoc hg hq) (by intro z h1 h2 h3; simp only [if_neg h1, if_neg h2, if_neg h3])
    · show TurnEnd _ _ _ _ _ _ _
      exact LJ_end (by k_asm) (by k_asm) (by k_mem) (by k_mem) (by k_mem) (by k_mem) (by k_mem) (by k_mem) (by k_mem) (by k_mem) hne (by assumption) hM hI (StrsAre.append' hps (.cons _ _ .nil)) (by rw [List.length_append]; simp only [List.length_cons, List.length_nil]; omega)
        (good_snoc hg (good_m7 (by assumption) (by assumption))) (by intro z h1 h2 h3; simp only [if_neg h1, if_neg h2, if_neg h3]))
end Mine
theorem PySem.Challenge.cw_eu0028_01_holds : PySem.Challenge.rw_eu0028_01.Holds := by
  exact Mine.law_holds
