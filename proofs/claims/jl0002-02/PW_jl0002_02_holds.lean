import PyProof.Rows.All
import Wide.All
import OpenK.AllK
import Wide.FinOn
import PySem.Challenge.RW_jl0002_02
open PySem PySem.W PyProof.Rows
set_option Elab.async false
set_option maxRecDepth 100000
set_option maxHeartbeats 40000000
namespace Mine
def inR (c t d : Str) : Bool := !decide (t.cps.toList < c.cps.toList) && !decide (d.cps.toList < t.cps.toList)
def negOf (x : Str) (i : Int) : Bool := Txt.item x i == Str.ofString "!" || Txt.item x i == Str.ofString "^"
def rmT (k : Int → Int → Int) (x t c : Str) (p ok : Int) : Int :=
  if p ≠ (x.length : Int) ∧ (Txt.item x p == Str.ofString "-") = true ∧ p + 1 ≠ (x.length : Int) ∧ (Txt.item x (p + 1) != Str.ofString "]") = true then
    if (Txt.item x (p + 1) == Str.ofString "\\") = true then
      if p + 2 = (x.length : Int) then -1 else k (p + 2 + 1) (if inR c t (Txt.item x (p + 2)) = true then 1 else ok)
    else k (p + 2) (if inR c t (Txt.item x (p + 1)) = true then 1 else ok)
  else k p (if (c == t) = true then 1 else ok)
def rmL (x t : Str) (ng : Bool) : Nat → Int → Int → Int
  | 0, _, _ => 0
  | n + 1, p, ok =>
    if p = (x.length : Int) then (if ok = (if ng = true then 1 else 0) then -1 else p)
    else if (Txt.item x p == Str.ofString "]") = true then (if ok = (if ng = true then 1 else 0) then -1 else p + 1)
    else if (Txt.item x p == Str.ofString "\\") = true then
      if p + 1 = (x.length : Int) then -1 else rmT (rmL x t ng n) x t (Txt.item x (p + 1)) (p + 1 + 1) ok
    else rmT (rmL x t ng n) x t (Txt.item x p) (p + 1) ok
def rmF (x : Str) (i : Int) (t : Str) : Int :=
  if i = (x.length : Int) then -1 else rmL x t (negOf x i) (x.length + 2) (if negOf x i = true then i + 1 else i) 0
def rmI (x : Str) (i : Int) (t : Str) (p ok : Int) : Prop :=
  (0 ≤ p ∧ p ≤ x.length ∧ (ok = 0 ∨ ok = 1)) ∧ ∃ n : Nat, (x.length : Int) - p < n ∧ rmL x t (negOf x i) n p ok = rmF x i t
theorem rmI.step {x t : Str} {i p ok p' ok' : Int} (h : rmI x i t p ok) (hb : p < p' ∧ p' ≤ x.length ∧ (ok' = 0 ∨ ok' = 1))
    (hs : ∀ n, rmL x t (negOf x i) (n + 1) p ok = rmL x t (negOf x i) n p' ok') : rmI x i t p' ok' := by
  obtain ⟨⟨h1, h2, h3⟩, n, hn, hR⟩ := h
  cases n with
  | zero => omega
  | succ n => exact ⟨⟨by omega, hb.2⟩, n, by omega, (hs n).symm.trans hR⟩
theorem rmI.fin {x t : Str} {i p ok r : Int} (h : rmI x i t p ok)
    (hs : ∀ n, rmL x t (negOf x i) (n + 1) p ok = r) : r = rmF x i t := by
  obtain ⟨⟨h1, h2, h3⟩, n, hn, hR⟩ := h
  cases n with
  | zero => omega
  | succ n => exact (hs n).symm.trans hR
theorem rmI.start {x t : Str} {i p : Int} (h0 : 0 ≤ i) (hi : i ≤ x.length) (hn : i ≠ x.length) (hp : (if negOf x i = true then i + 1 else i) = p) : rmI x i t p 0 := by
  refine ⟨⟨by split at hp <;> omega, by split at hp <;> omega, .inl rfl⟩, x.length + 2, by split at hp <;> omega, ?_⟩
  rw [rmF, if_neg hn, hp]
theorem gen_toks {α : Type} {M : Model} {A : Around} {t : Sem α} {Q : α → Shared → Prop} {E : Value → Shared → Prop} {h : Heap} {g : Array GenState} {d : Drawn} {X : Nat} {o : OsState} (H : ∀ tk, wpAny M A t Q E ⟨h, g, d, tk, o⟩) : wpAny M A t Q E ⟨h, g, d, X, o⟩ := H X
end Mine
namespace Mine
def kmF (x y : Str) : Bool :=
  if Txt.find y (Str.ofString "*") = -1 then x == y
  else if Txt.find y (Str.ofString "*") < (x.length : Int) then Txt.slice x none (some (Txt.find y (Str.ofString "*"))) == Txt.slice y none (some (Txt.find y (Str.ofString "*")))
  else x == Txt.slice y none (some (Txt.find y (Str.ofString "*")))
def kgF (x y : Str) : Str :=
  if Txt.find y (Str.ofString "*") = -1 then Str.ofString ""
  else if Txt.find y (Str.ofString "*") < (x.length : Int) then
    (if (Txt.slice x none (some (Txt.find y (Str.ofString "*"))) == Txt.slice y none (some (Txt.find y (Str.ofString "*")))) = true then Txt.slice x (some (Txt.find y (Str.ofString "*"))) none else Str.ofString "")
  else Str.ofString ""
end Mine
namespace Mine
abbrev Mark := Str × Bool × Int
def Mark.dat (m : Mark) : Dat := .tuple [.str m.1, .bool m.2.1, .int m.2.2]
def mkL (x : Str) : Nat → Int → List Mark
  | 0, _ => []
  | n + 1, p =>
    if p < (x.length : Int) then
      if (Txt.item x p == Str.ofString "\\") = true then (Txt.slice x (some (p + 1)) (some (p + 2)), true, p + 2) :: mkL x n (p + 2)
      else (Txt.item x p, false, p + 1) :: mkL x n (p + 1)
    else []
def mkF (x : Str) (p : Int) : List Mark := mkL x (x.length + 2) p
def mkI (x : Str) (i p : Int) (us : List Value) (tl : List (Addr × Obj)) : Prop :=
  0 ≤ p ∧ ∃ (ms : List Mark) (n : Nat), (x.length : Int) - p < n ∧ ms ++ mkL x n p = mkF x i ∧ DatAll tl us (ms.map Mark.dat) ∧ (us.length : Int) ≤ p
theorem mkL_esc {x : Str} {p : Int} (hp : p < (x.length : Int)) (he : (Txt.item x p == Str.ofString "\\") = true) (n : Nat) : mkL x (n + 1) p = (Txt.slice x (some (p + 1)) (some (p + 2)), true, p + 2) :: mkL x n (p + 2) := by
  rw [mkL, if_pos hp, if_pos he]
theorem mkL_one {x : Str} {p : Int} (hp : p < (x.length : Int)) (he : (Txt.item x p == Str.ofString "\\") = false) (n : Nat) : mkL x (n + 1) p = (Txt.item x p, false, p + 1) :: mkL x n (p + 1) := by
  rw [mkL, if_pos hp, if_neg (by rw [he]; decide)]
theorem mkL_end {x : Str} {p : Int} (hp : ¬ p < (x.length : Int)) (n : Nat) : mkL x n p = [] := by
  cases n with
  | zero => rfl
  | succ n => rw [mkL, if_neg hp]
theorem mkI.start {x : Str} {i : Int} (h0 : 0 ≤ i) : mkI x i i [] [] := ⟨h0, [], x.length + 2, by omega, rfl, .nil, by simpa using h0⟩
theorem mkI.size {x : Str} {i p : Int} {us : List Value} {tl : List (Addr × Obj)} (h : mkI x i p us tl) : (us.length : Int) ≤ p := by
  obtain ⟨_, _, _, _, _, _, h⟩ := h
  exact h
theorem mkI.step {x : Str} {i p p' : Int} {us : List Value} {tl tl' : List (Addr × Obj)} {v : Value} (m : Mark) (h : mkI x i p us tl) (hp : p < x.length) (hp' : p < p') (hs : ∀ n, mkL x (n + 1) p = m :: mkL x n p') (hv : DatIn tl' v m.dat) (ht : ∀ q ∈ tl, q ∈ tl') : mkI x i p' (us ++ [v]) tl' := by
  obtain ⟨h0, ms, n, hn, he, hd, hu⟩ := h
  cases n with
  | zero => omega
  | succ n =>
    refine ⟨by omega, ms ++ [m], n, by omega, ?_, ?_, ?_⟩
    · rw [← he, hs n]; simp
    · rw [List.map_append]; exact DatAll.append (DatAll.mono ht hd) (.one hv)
    · rw [List.length_append, List.length_singleton]; omega
theorem mkI.fin {x : Str} {i p : Int} {us : List Value} {tl : List (Addr × Obj)} (h : mkI x i p us tl) (hp : ¬ p < x.length) : DatAll tl us ((mkF x i).map Mark.dat) := by
  obtain ⟨h0, ms, n, hn, he, hd, hu⟩ := h
  have : mkL x n p = [] := by cases n with | zero => rfl | succ n => rw [mkL, if_neg hp]
  rw [this, List.append_nil] at he
  exact he ▸ hd
theorem mk_led {D D' : Addr} {t : Obj} {us : List Value} {v : Value} {n : Nat} {tl news : List (Addr × Obj)} : ∀ p ∈ (D, listOf (us ++ [v]).toArray n) :: (((D', t) :: tl) ++ news), p ∈ (D', t) :: (D, listOf (us.toArray.push v) n) :: (tl ++ news) := by
  intro p hp
  rw [List.push_toArray]
  simp only [List.mem_cons, List.mem_append] at hp ⊢
  rcases hp with h | (h | h) | h
  · exact .inr (.inl h)
  · exact .inl h
  · exact .inr (.inr (.inl h))
  · exact .inr (.inr (.inr h))
theorem allLt_all {d : Addr} : ∀ {l : List (Addr × Obj)}, AllLt d l → ∀ p ∈ l, p.1 < d
  | [], _, _, hp => nomatch hp
  | q :: r, h, p, hp => by
    rcases List.mem_cons.mp hp with rfl | hp
    · exact h.1
    · exact allLt_all h.2 p hp
theorem mk_off {D D' : Addr} {t : Obj} {tl news : List (Addr × Obj)} (h : OwnOff tl (D :: news.map (·.1))) (hl : D < D') (hn : AllLt D' (tl ++ news)) : OwnOff ((D', t) :: tl) (D :: news.map (·.1)) := by
  intro p hp b hb
  rcases List.mem_cons.mp hp with rfl | hp
  · rcases List.mem_cons.mp hb with rfl | hb
    · exact Ne.symm (Nat.ne_of_lt hl)
    · obtain ⟨q, hq, rfl⟩ := List.mem_map.mp hb
      exact Ne.symm (Nat.ne_of_lt (allLt_all hn q (List.mem_append.mpr (.inr hq))))
  · exact h p hp b hb
def mAt (ms : List Mark) (k : Int) : Mark := (ms[k.toNat]?).getD (Str.ofString "", false, 0)
def isEnd (m : Mark) : Bool := m.1 == Str.ofString "]" && m.2.1 == false
def endT (ms : List Mark) (k : Int) : Bool := isEnd (mAt ms k)
def endG (ms : List Mark) (l : List Int) (k : Int) : List Int := if endT ms k = true then l ++ [k] else l
theorem endG_yes {ms : List Mark} {l : List Int} {k : Int} (h : ((mAt ms k).1 == Str.ofString "]" && (mAt ms k).2.1 == false) = true) : endG ms l k = l ++ [k] := by
  unfold endG endT isEnd
  rw [if_pos h]
theorem endG_no {ms : List Mark} {l : List Int} {k : Int} (h : ((mAt ms k).1 == Str.ofString "]" && (mAt ms k).2.1 == false) = false) : endG ms l k = l := by
  unfold endG endT isEnd
  rw [h, if_neg (by decide)]
abbrev rhsOf {α : Type} {a b : α} (_ : a = b) : α := b
theorem endG_grows (ms : List Mark) : KPfGrows (endG ms) := fun l k => by
  unfold endG
  split <;> simp
theorem ok_item {x : Str} (h : PyData.strOk x = true) (i : Int) : PyData.strOk (Txt.item x i) = true := by
  unfold PyData.strOk at h ⊢
  rw [Array.all_eq_true_iff_forall_mem] at h ⊢
  intro c hc
  unfold Txt.item at hc
  rw [List.mem_toArray, List.mem_singleton] at hc
  subst hc
  unfold Txt.charAt
  cases e : seqIndex? i x.length with
  | none => simp
  | some j =>
    rw [Option.bind_some]
    cases e2 : x.cps[j]? with
    | none => simp
    | some c => exact h c (Array.mem_of_getElem? e2)
theorem ok_slice {x : Str} (h : PyData.strOk x = true) (l u : Option Int) : PyData.strOk (Txt.slice x l u) = true := by
  unfold Txt.slice
  split
  · exact h
  · unfold PyData.strOk at h ⊢
    rw [Array.all_eq_true_iff_forall_mem] at h ⊢
    intro c hc
    rw [List.mem_toArray, List.mem_filterMap] at hc
    obtain ⟨j, _, e⟩ := hc
    exact h c (Array.mem_of_getElem? e)
theorem mkL_ok {x : Str} (h : PyData.strOk x = true) : ∀ (n : Nat) (p : Int), ∀ m ∈ mkL x n p, PyData.strOk m.1 = true
  | 0, p, m, hm => nomatch hm
  | n + 1, p, m, hm => by
    rw [mkL] at hm
    split at hm
    · split at hm
      · rcases List.mem_cons.mp hm with rfl | hm
        · exact ok_slice h _ _
        · exact mkL_ok h n _ m hm
      · rcases List.mem_cons.mp hm with rfl | hm
        · exact ok_item h _
        · exact mkL_ok h n _ m hm
    · cases hm
theorem mkL_len (x : Str) : ∀ (n : Nat) (p : Int), (mkL x n p).length ≤ (x.length - p).toNat
  | 0, p => by simp [mkL]
  | n + 1, p => by
    have h1 := mkL_len x n (p + 1)
    have h2 := mkL_len x n (p + 2)
    rw [mkL]
    split
    · split
      · rw [List.length_cons]; omega
      · rw [List.length_cons]; omega
    · simp
theorem lm_rest {g h : Heap} {L C D : Addr} {oC o : Obj} {us : List Value} {tl news : List (Addr × Obj)} {x : Str} {p : Int} (N : News g L h ((D, o) :: (tl ++ (C, oC) :: news))) (A : DatAll tl us ((mkF x p).map Mark.dat)) (h0 : 0 ≤ p) (hx : x.length ≤ 1000) (hok : PyData.strOk x = true)
    (O : OwnOff tl (D :: ((C, oC) :: news).map (·.1))) (lt : ∀ q ∈ (C, oC) :: news, q.1 < D) (l2 : ∀ q ∈ news, q.1 < C) :
    ∃ rest ms, News g L h ((C, oC) :: (D, o) :: rest) ∧ DatAll rest us (ms.map Mark.dat) ∧ mkF x p = ms ∧ ((ms.map Mark.dat).length : Int) ≤ 1000 ∧ (∀ m ∈ ms, PyData.strOk m.1 = true) ∧ OwnOff rest [C, D] ∧ @LT.lt Nat _ C D ∧ (∀ p ∈ news, p ∈ rest) := by
  refine ⟨tl ++ news, _, fun p hp => N p ?_, DatAll.mono (fun p hp => List.mem_append.mpr (.inl hp)) A, rfl, ?_, mkL_ok hok _ _, ?_, lt _ (.head _), fun p hp => List.mem_append.mpr (.inr hp)⟩
  · simp only [List.mem_cons, List.mem_append] at hp ⊢
    rcases hp with h | h | h | h
    · exact .inr (.inr (.inl h))
    · exact .inl h
    · exact .inr (.inl h)
    · exact .inr (.inr (.inr h))
  · have := mkL_len x (x.length + 2) p
    rw [List.length_map]
    show (((mkL x (x.length + 2) p).length : Nat) : Int) ≤ 1000
    omega
  · intro p hp b hb
    rcases List.mem_append.mp hp with hp | hp
    · rcases List.mem_cons.mp hb with rfl | hb
      · exact O p hp _ (.tail _ (.head _))
      · rw [List.mem_singleton.mp hb]; exact O p hp _ (.head _)
    · rcases List.mem_cons.mp hb with rfl | hb
      · exact Nat.ne_of_lt (l2 p hp)
      · rw [List.mem_singleton.mp hb]; exact Nat.ne_of_lt (lt p (.tail _ hp))
theorem mark_open {L9 : List (Addr × Obj)} {m : Mark} {v : Value} (h : DatIn L9 v m.dat) : ∃ a t t' n, v = .ref a ∧ (a, ({ cls := .type "tuple", data := .seq #[.str m.1 t, .bool m.2.1, .int m.2.2 t'] n } : Obj)) ∈ L9 := by
  unfold Mark.dat at h
  cases h with
  | tuple hm hall =>
    cases hall with
    | cons h1 hall =>
      cases h1
      cases hall with
      | cons h2 hall =>
        cases h2
        cases hall with
        | cons h3 hall =>
          cases h3
          cases hall
          exact ⟨_, _, _, _, rfl, hm⟩
theorem mk_item {prog : Program} {w : World} {A : Around} {E : Value → Shared → Prop} {s : Shared} {h₀ : Heap} {L l : Addr} {value slice : PySem.Expr} {news L9 : List (Addr × Obj)} {us : List Value} {ms : List Mark} {n : Nat} {k : Int} {u : Tok} {Q : Value → Shared → Prop} (N : News h₀ L s.heap news) (hm : (l, listOf us.toArray n) ∈ news) (hd : DatAll L9 us (ms.map Mark.dat))
    (h0 : 0 ≤ k) (h1 : k < ((ms.map Mark.dat).length : Int)) (hml : ((ms.map Mark.dat).length : Int) ≤ 1000) (hok : ∀ m ∈ ms, PyData.strOk m.1 = true) (h : ∀ a t t' n', PyData.strOk (mAt ms k).1 = true → (a, ({ cls := .type "tuple", data := .seq #[.str (mAt ms k).1 t, .bool (mAt ms k).2.1, .int (mAt ms k).2.2 t'] n' } : Obj)) ∈ L9 → Q (.ref a) s)
    (hs : subscripted slice false (.ref l) (.int k u) = operate [.ref l, .int k u] (getItem (.ref l) (.int k u)) := by with_unfolding_all rfl) :
    wpAny (model prog w) A (subscriptTail value slice (.ref l) (.int k u)) Q E s :=
  kd_item N hm hd h0 h1 (by omega) (fun v d hk _ hD => by
    rw [List.getElem?_map] at hk
    cases e : ms[k.toNat]? with
    | none => rw [e] at hk; cases hk
    | some m =>
      rw [e] at hk
      cases hk
      obtain ⟨a, t, t', n', rfl, hmem⟩ := mark_open hD
      have em : mAt ms k = m := by rw [mAt, e, Option.getD_some]
      exact h a t t' n' (by rw [em]; exact hok m (List.mem_of_getElem? e)) (by rw [em]; exact hmem)) hs
def isDash (m : Mark) : Bool := m.1 == Str.ofString "-" && m.2.1 == false
def lcFin (ot : Bool) (b : Int) (fd : Bool) : Int := if (fd != ot) = true then b else -1
def lcL (ms : List Mark) (t : Str) (ot : Bool) (len : Int) : Nat → Int → Bool → Int
  | 0, _, _ => 0
  | n + 1, k, fd =>
    if k < ((ms.map Mark.dat).length : Int) then
      if isEnd (mAt ms k) = true then lcFin ot (mAt ms k).2.2 fd
      else if k + 1 + 1 < ((ms.map Mark.dat).length : Int) ∧ isDash (mAt ms (k + 1)) = true ∧ ((List.foldl (endG ms) [] (rangeKs 0 (((ms.map Mark.dat).length : Int) - 0).toNat)).any fun x => x == k + 1 + 1) = false then
        if ((mAt ms k).1 == Str.ofString "") = true ∨ ((mAt ms (k + 1 + 1)).1 == Str.ofString "") = true then -1
        else lcL ms t ot len n (k + 1 + 2) (fd || inR (mAt ms k).1 t (mAt ms (k + 1 + 1)).1)
      else if ((mAt ms k).1 == Str.ofString "") = true then -1
      else lcL ms t ot len n (k + 1) (fd || inR (mAt ms k).1 t (mAt ms k).1)
    else lcFin ot len fd
abbrev otF (x : Str) (i : Int) : Bool := !(Builtin.Str.occurrences (Str.ofString "!^") (Txt.item x i) 0 (Str.ofString "!^").length 1).isEmpty
def lcF (x : Str) (i : Int) (t : Str) : Int :=
  if (x.length : Int) ≤ i then -1
  else lcL (mkF x (i + if otF x i = true then 1 else 0)) t (otF x i) x.length ((mkF x (i + if otF x i = true then 1 else 0)).length + 1) 0 false
def lcI (x : Str) (i : Int) (t : Str) (ms : List Mark) (k : Int) (fd : Bool) : Prop :=
  (0 ≤ k ∧ k ≤ ((ms.map Mark.dat).length : Int)) ∧ ∃ n : Nat, ((ms.map Mark.dat).length : Int) - k < n ∧ lcL ms t (otF x i) x.length n k fd = lcF x i t
theorem lcI.start {x t : Str} {i : Int} {ms : List Mark} (hi : ¬ (x.length : Int) ≤ i) (h : mkF x (i + if otF x i = true then 1 else 0) = ms) : lcI x i t ms 0 false := by
  refine ⟨⟨Int.le_refl _, Int.natCast_nonneg _⟩, ms.length + 1, by rw [List.length_map]; omega, ?_⟩
  rw [lcF, if_neg hi, h]
theorem lcI.step {x t : Str} {i k k' : Int} {ms : List Mark} {fd fd' : Bool} (h : lcI x i t ms k fd) (hk : k < ((ms.map Mark.dat).length : Int)) (hk' : k < k' ∧ k' ≤ ((ms.map Mark.dat).length : Int))
    (hs : ∀ n, lcL ms t (otF x i) x.length (n + 1) k fd = lcL ms t (otF x i) x.length n k' fd') : lcI x i t ms k' fd' := by
  obtain ⟨h1, n, hn, hR⟩ := h
  cases n with
  | zero => omega
  | succ n => exact ⟨by omega, n, by omega, (hs n).symm.trans hR⟩
theorem lcI.fin {x t : Str} {i k r : Int} {ms : List Mark} {fd : Bool} (h : lcI x i t ms k fd)
    (hs : ∀ n, lcL ms t (otF x i) x.length (n + 1) k fd = r) : r = lcF x i t := by
  obtain ⟨h1, n, hn, hR⟩ := h
  cases n with
  | zero => omega
  | succ n => exact (hs n).symm.trans hR
theorem while_fix {prog : Program} {w : World} {A : Around} {E : Value → Shared → Prop} {Q : Flow → Shared → Prop} {s : Shared} {env : Env} {h₀ : Heap} {L : Addr} {σ : Type} {test : PySem.Expr} {body : List Stmt} {pos : Pos} {m₀ : Str → Option Value} {led : List (Addr × Obj)} (ps : σ → List (Str × Value)) (stored : List Str) (P : σ → Prop) (μ : σ → Nat) (c₀ : σ)
    (F : Fr h₀ L s.heap m₀) (N : News h₀ L s.heap led) (hk : ∀ p ∈ ps c₀, m₀ p.1 = some p.2) (hp : P c₀)
    (turn : ∀ (c : σ) (u : Str → Option Value) h tk, P c → Fr h₀ L h (kstB (fun z => if stored.contains z then u z else m₀ z) (ps c)) → News h₀ L h led →
      wpAny (model prog w) A (isTrue test env (eval test env)) (fun b s₂ =>
        if b = true then wpAny (model prog w) A (execs body env) (KswPost h₀ L s (fun _ => led) ps (fun _ => True) stored m₀ P μ Q c) E s₂ else Q .next s₂) E { s with heap := h, toks := tk })
    (hE : PassesOwn (model prog w) A env E := by passes_own) :
    wpAny (model prog w) A (exec (.While test body [] pos) env) Q E s :=
  ksw_while (fun _ => led) ps (fun _ => True) stored P μ c₀ F N trivial hk hp (fun c u h tk _ hP hF hN => turn c u h tk hP hF hN) hE
section
variable {ms : List Mark} {t : Str} {ot : Bool} {len k : Int} {fd fd' : Bool} {c : Str}
abbrev NoDash (ms : List Mark) (k : Int) : Prop := ¬ (k + 1 + 1 < ((ms.map Mark.dat).length : Int) ∧ isDash (mAt ms (k + 1)) = true ∧ ((List.foldl (endG ms) [] (rangeKs 0 (((ms.map Mark.dat).length : Int) - 0).toNat)).any fun x => x == k + 1 + 1) = false)
theorem nd1 (h : ¬ k + 1 + 1 < ((ms.map Mark.dat).length : Int)) : NoDash ms k := fun q => h q.1
theorem nd2 (h : ((mAt ms (k + 1)).1 == Str.ofString "-" && (mAt ms (k + 1)).2.1 == false) = false) : NoDash ms k := fun q => by
  have := q.2.1
  unfold isDash at this
  rw [h] at this
  cases this
theorem nd3 (h : ((List.foldl (endG ms) [] (rangeKs 0 (((ms.map Mark.dat).length : Int) - 0).toNat)).any fun x => x == k + 1 + 1) = true) : NoDash ms k := fun q => by
  rw [h] at q
  cases q.2.2
theorem fd1 {b r : Bool} (h : b = true) : b = (b || r) := by rw [h]; rfl
theorem fd2 {b : Bool} {c t d : Str} {e : Decidable (t.cps.toList < c.cps.toList)} (h : b = false) (h2 : t.cps.toList < c.cps.toList) : (!@decide _ e) = (b || inR c t d) := by
  unfold inR
  simp [h, h2]
theorem fd3 {b : Bool} {c t d : Str} {e : Decidable (d.cps.toList < t.cps.toList)} (h : b = false) (h2 : ¬ t.cps.toList < c.cps.toList) : (!@decide _ e) = (b || inR c t d) := by
  unfold inR
  simp [h, h2]
theorem lc_one (h1 : k < ((ms.map Mark.dat).length : Int)) (h2 : ((mAt ms k).1 == Str.ofString "]" && (mAt ms k).2.1 == false) = false) (nd : NoDash ms k) (h3 : ((mAt ms k).1 == Str.ofString "") = false)
    (hf : fd' = (fd || inR (mAt ms k).1 t (mAt ms k).1)) (n : Nat) : lcL ms t ot len (n + 1) k fd = lcL ms t ot len n (k + 1) fd' := by
  rw [lcL, if_pos h1, isEnd, h2, if_neg (by decide), if_neg nd, h3, if_neg (by decide), hf]
theorem lc_rng (h1 : k < ((ms.map Mark.dat).length : Int)) (h2 : ((mAt ms k).1 == Str.ofString "]" && (mAt ms k).2.1 == false) = false) (d1 : k + 1 + 1 < ((ms.map Mark.dat).length : Int)) (d2 : ((mAt ms (k + 1)).1 == Str.ofString "-" && (mAt ms (k + 1)).2.1 == false) = true)
    (d3 : ((List.foldl (endG ms) [] (rangeKs 0 (((ms.map Mark.dat).length : Int) - 0).toNat)).any fun x => x == k + 1 + 1) = false) (h3 : ((mAt ms k).1 == Str.ofString "") = false) (h4 : ((mAt ms (k + 1 + 1)).1 == Str.ofString "") = false)
    (hf : fd' = (fd || inR (mAt ms k).1 t (mAt ms (k + 1 + 1)).1)) (n : Nat) : lcL ms t ot len (n + 1) k fd = lcL ms t ot len n (k + 1 + 2) fd' := by
  rw [lcL, if_pos h1, isEnd, h2, if_neg (by decide), if_pos ⟨d1, d2, d3⟩, h3, h4, if_neg (by decide), hf]
theorem lc_one_no (h1 : k < ((ms.map Mark.dat).length : Int)) (h2 : ((mAt ms k).1 == Str.ofString "]" && (mAt ms k).2.1 == false) = false) (nd : NoDash ms k) (h3 : ((mAt ms k).1 == Str.ofString "") = true)
    (n : Nat) : lcL ms t ot len (n + 1) k fd = -1 := by
  rw [lcL, if_pos h1, isEnd, h2, if_neg (by decide), if_neg nd, if_pos h3]
theorem lc_rng_no (h1 : k < ((ms.map Mark.dat).length : Int)) (h2 : ((mAt ms k).1 == Str.ofString "]" && (mAt ms k).2.1 == false) = false) (d1 : k + 1 + 1 < ((ms.map Mark.dat).length : Int)) (d2 : ((mAt ms (k + 1)).1 == Str.ofString "-" && (mAt ms (k + 1)).2.1 == false) = true)
    (d3 : ((List.foldl (endG ms) [] (rangeKs 0 (((ms.map Mark.dat).length : Int) - 0).toNat)).any fun x => x == k + 1 + 1) = false) (h3 : ((mAt ms k).1 == Str.ofString "") = true ∨ ((mAt ms (k + 1 + 1)).1 == Str.ofString "") = true)
    (n : Nat) : lcL ms t ot len (n + 1) k fd = -1 := by
  rw [lcL, if_pos h1, isEnd, h2, if_neg (by decide), if_pos ⟨d1, d2, d3⟩, if_pos h3]
theorem pick_fin {b : Int} {c : Bool} : ([-1, b].getD (if c = true then 1 else 0 : Int).toNat 0) = if c = true then b else -1 := by
  cases c <;> rfl
theorem lc_end (h1 : k < ((ms.map Mark.dat).length : Int)) (h2 : ((mAt ms k).1 == Str.ofString "]" && (mAt ms k).2.1 == false) = true) (n : Nat) : lcL ms t ot len (n + 1) k fd = ([-1, (mAt ms k).2.2].getD (if (fd != ot) = true then 1 else 0 : Int).toNat 0) := by
  rw [lcL, if_pos h1, isEnd, if_pos h2, pick_fin, lcFin]
theorem lc_out (h1 : ¬ k < ((ms.map Mark.dat).length : Int)) (n : Nat) : lcL ms t ot len (n + 1) k fd = ([-1, len].getD (if (fd != ot) = true then 1 else 0 : Int).toNat 0) := by
  rw [lcL, if_neg h1, pick_fin, lcFin]
end
end Mine
namespace Mine
theorem inR_self (c t : Str) : inR c t c = (c == t) := by
  unfold inR
  by_cases h : c = t
  · subst h
    have hh : ¬ c.cps.toList < c.cps.toList := List.lt_irrefl _
    simp [hh]
  · have hne : c.cps.toList ≠ t.cps.toList := fun e => h (Str.ext' (Array.toList_inj.mp e))
    have : (c == t) = false := beq_eq_false_iff_ne.mpr h
    rw [this]
    by_cases h1 : t.cps.toList < c.cps.toList
    · simp [h1]
    · by_cases h2 : c.cps.toList < t.cps.toList
      · simp [h2]
      · exact absurd (List.le_antisymm (List.not_lt.mp h1) (List.not_lt.mp h2)) hne
theorem item_cps {x : Str} {p : Int} (h0 : 0 ≤ p) (h1 : p < (x.length : Int)) : ∃ c, x.cps[p.toNat]? = some c ∧ Txt.item x p = ⟨#[c]⟩ := by
  have hp : p.toNat < x.cps.size := by
    have : (x.length : Int) = (x.cps.size : Int) := rfl
    omega
  refine ⟨x.cps[p.toNat], Array.getElem?_eq_getElem hp, ?_⟩
  unfold Txt.item Txt.charAt seqIndex?
  have e1 : (decide (0 ≤ p) && decide (p < (x.length : Int))) = true := by simp [h0, h1]
  simp only [if_neg (show ¬ p < 0 by omega), e1, if_true, Option.bind_some, Array.getElem?_eq_getElem hp, Option.getD_some]
theorem item_ne_nil {x : Str} {p : Int} : (Txt.item x p == Str.ofString "") = false := by
  rw [beq_eq_false_iff_ne]
  intro e
  have h := congrArg (fun s => s.cps.size) e
  have h2 : (Txt.item x p).cps.size = 1 := rfl
  have h3 : (Str.ofString "").cps.size = 0 := by decide
  have : (1 : Nat) = 0 := h2.symm.trans (h.trans h3)
  cases this
theorem slice_one {x : Str} {p : Int} (h0 : 0 ≤ p) (h1 : p < (x.length : Int)) : Txt.slice x (some p) (some (p + 1)) = Txt.item x p := by
  obtain ⟨c, hc, e⟩ := item_cps h0 h1
  have hx : (x.length : Int) = (x.cps.toList.length : Int) := by rw [Array.length_toList]; rfl
  rw [e, beq_iff_eq.mp (slice_closes (x := x) (i := p) (j := p + 1) ⟨h0, by omega, by omega⟩)]
  rw [show (p + 1 - p).toNat = 1 by omega]
  have hc' : x.cps.toList[p.toNat]? = some c := by rw [Array.getElem?_toList]; exact hc
  obtain ⟨hl, hg⟩ := List.getElem?_eq_some_iff.mp hc'
  rw [List.drop_eq_getElem_cons hl, hg]
  rfl
theorem slice_out {x : Str} {p : Int} (h1 : (x.length : Int) ≤ p) : Txt.slice x (some p) (some (p + 1)) = Str.ofString "" := by
  have hs : Builtin.Str.strSliceIndices (some p) (some (p + 1)) 1 x.length = [] := by
    unfold Builtin.Str.strSliceIndices
    have a1 : ¬ (p < 0) := by omega
    have a2 : ¬ (p + 1 < 0) := by omega
    simp only [a1, a2, if_false, show (1 : Int) > 0 by decide, if_true]
    rw [show max 0 (min p (x.length : Int)) = (x.length : Int) by omega, show max 0 (min (p + 1) (x.length : Int)) = (x.length : Int) by omega]
    have := PySem.sliceRange_one x.length x.length
    simpa using this
  unfold Txt.slice
  rw [hs]
  split
  · rename_i h
    have h2 : x.length = 0 := (beq_iff_eq.mp (Bool.and_eq_true_iff.mp h).2).symm
    exact Str.ext' ((Array.eq_empty_of_size_eq_zero h2).trans (by decide))
  · rfl
theorem at_drop {ms : List Mark} {k : Int} {m : Mark} {r : List Mark} (h0 : 0 ≤ k) (h : ms.drop k.toNat = m :: r) : k < ((ms.map Mark.dat).length : Int) ∧ mAt ms k = m ∧ ms.drop (k + 1).toNat = r := by
  have hl : k.toNat < ms.length := by
    rcases Nat.lt_or_ge k.toNat ms.length with q | q
    · exact q
    · rw [List.drop_of_length_le q] at h; cases h
  rw [List.drop_eq_getElem_cons hl] at h
  obtain ⟨e1, e2⟩ := List.cons.inj h
  refine ⟨by rw [List.length_map]; omega, ?_, ?_⟩
  · rw [mAt, List.getElem?_eq_getElem hl, e1]; rfl
  · rw [show (k + 1).toNat = k.toNat + 1 by omega]; exact e2
theorem at_nil {ms : List Mark} {k : Int} (h0 : 0 ≤ k) (h : ms.drop k.toNat = []) : ¬ k < ((ms.map Mark.dat).length : Int) := by
  rw [List.length_map]
  have := List.drop_eq_nil_iff.mp h
  omega
theorem endG_fold (ms : List Mark) : ∀ (l acc : List Int), l.foldl (endG ms) acc = acc ++ l.filter (endT ms)
  | [], acc => by simp
  | k :: r, acc => by
    rw [List.foldl_cons, endG_fold ms r, List.filter_cons, endG]
    split <;> simp
theorem any_end {ms : List Mark} {j : Int} (h0 : 0 ≤ j) (h1 : j < ((ms.map Mark.dat).length : Int)) : ((List.foldl (endG ms) [] (rangeKs 0 (((ms.map Mark.dat).length : Int) - 0).toNat)).any fun x => x == j) = endT ms j := by
  rw [endG_fold, List.nil_append]
  rw [Bool.eq_iff_iff, List.any_eq_true]
  constructor
  · rintro ⟨y, hy, e⟩
    rw [beq_iff_eq] at e
    subst e
    exact (List.mem_filter.mp hy).2
  · intro h
    refine ⟨j, List.mem_filter.mpr ⟨?_, h⟩, by simp⟩
    unfold rangeKs
    refine List.mem_map.mpr ⟨j.toNat, List.mem_range.mpr (by omega), by omega⟩
theorem mkL_ne {x : Str} {f : Nat} {p : Int} (hp : p < (x.length : Int)) (hf : (x.length : Int) - p < f) : ∃ m r, mkL x f p = m :: r := by
  cases f with
  | zero => omega
  | succ f =>
    rw [mkL, if_pos hp]
    split <;> exact ⟨_, _, rfl⟩
/-- one mark at p: its sign, whether a backslash stands ahead of it, where the next one begins -/
theorem mkL_head {x : Str} {f : Nat} {p : Int} (hp : p < (x.length : Int)) (hf : (x.length : Int) - p < f) :
    ∃ m f', mkL x f p = m :: mkL x f' m.2.2 ∧ (x.length : Int) - m.2.2 < f' ∧
      (((Txt.item x p == Str.ofString "\\") = true ∧ m = (Txt.slice x (some (p + 1)) (some (p + 2)), true, p + 2)) ∨ ((Txt.item x p == Str.ofString "\\") = false ∧ m = (Txt.item x p, false, p + 1))) := by
  cases f with
  | zero => omega
  | succ f =>
    rw [mkL, if_pos hp]
    cases e : (Txt.item x p == Str.ofString "\\") with
    | true => exact ⟨_, f, rfl, by dsimp only; omega, .inl ⟨rfl, rfl⟩⟩
    | false => exact ⟨_, f, rfl, by dsimp only; omega, .inr ⟨rfl, rfl⟩⟩
def b2i (b : Bool) : Int := if b = true then 1 else 0
theorem b2i_or (fd r : Bool) : (if r = true then 1 else b2i fd) = b2i (fd || r) := by cases fd <;> cases r <;> rfl
theorem eq_excl {s a b : Str} (hab : (a == b) = false) (h : (s == a) = true) : (s == b) = false := by
  rw [beq_iff_eq] at h
  rw [h]; exact hab
theorem rm_tail {x t : Str} {ng : Bool} {ms : List Mark} {n : Nat}
    (ih : ∀ (p k : Int) (fd : Bool) (n' f : Nat), 0 ≤ p → p ≤ x.length → 0 ≤ k → k ≤ ((ms.map Mark.dat).length : Int) → (x.length : Int) - p < n → ((ms.map Mark.dat).length : Int) - k < n' → (x.length : Int) - p < f → ms.drop k.toNat = mkL x f p →
      rmL x t ng n p (b2i fd) = lcL ms t ng x.length n' k fd)
    {q k : Int} {fd : Bool} {n' f' : Nat} {c : Str} (hq0 : 0 ≤ q) (hq : q ≤ x.length) (hqn : (x.length : Int) - q < n) (hk0 : 0 ≤ k) (hk : k < ((ms.map Mark.dat).length : Int)) (hkn : ((ms.map Mark.dat).length : Int) - k < n' + 1) (hf : (x.length : Int) - q < f')
    (hd : ms.drop (k + 1).toNat = mkL x f' q) (hc : (c == Str.ofString "") = false) :
    rmT (rmL x t ng n) x t c q (b2i fd) = (if k + 1 + 1 < ((ms.map Mark.dat).length : Int) ∧ isDash (mAt ms (k + 1)) = true ∧ ((List.foldl (endG ms) [] (rangeKs 0 (((ms.map Mark.dat).length : Int) - 0).toNat)).any fun x => x == k + 1 + 1) = false then
        if (c == Str.ofString "") = true ∨ ((mAt ms (k + 1 + 1)).1 == Str.ofString "") = true then -1
        else lcL ms t ng x.length n' (k + 1 + 2) (fd || inR c t (mAt ms (k + 1 + 1)).1)
      else if (c == Str.ofString "") = true then -1
      else lcL ms t ng x.length n' (k + 1) (fd || inR c t c)) := by
  have single : ∀ {P R : Prop} [Decidable P] [Decidable R], ¬ P → ¬ R → ∀ a b : Int,
      (if P then a else rmL x t ng n q (if (c == t) = true then 1 else b2i fd)) = (if R then b else if (c == Str.ofString "") = true then -1 else lcL ms t ng x.length n' (k + 1) (fd || inR c t c)) := by
    intro P R _ _ hP hR a b
    rw [if_neg hP, if_neg hR, if_neg (show ¬ (c == Str.ofString "") = true by rw [hc]; decide), b2i_or, inR_self]
    exact ih q (k + 1) (fd || (c == t)) n' f' hq0 hq (by omega) (by omega) hqn (by omega) hf hd
  unfold rmT
  by_cases hq1 : q = x.length
  · have hnil : ms.drop (k + 1).toNat = [] := hd.trans (mkL_end (by omega) _)
    have h1 := at_nil (by omega) hnil
    exact single (fun h => h.1 hq1) (fun h => h1 (by omega)) _ _
  · obtain ⟨m1, f1, e1, hf1, hm1⟩ := mkL_head (x := x) (p := q) (f := f') (by omega) hf
    obtain ⟨hk2, hA1, hd2⟩ := at_drop (by omega) (hd.trans e1)
    cases hdash : (Txt.item x q == Str.ofString "-") with
    | false =>
      have hD : isDash (mAt ms (k + 1)) = false := by
        rw [hA1]
        rcases hm1 with ⟨_, rfl⟩ | ⟨_, rfl⟩
        · simp [isDash]
        · simp only [isDash, hdash]; rfl
      exact single (fun h => by cases h.2.1) (fun h => by rw [hD] at h; cases h.2.1) _ _
    | true =>
      have hesc : (Txt.item x q == Str.ofString "\\") = false := eq_excl (by decide) hdash
      rcases hm1 with ⟨h', _⟩ | ⟨_, rfl⟩
      · rw [hesc] at h'; cases h'
      dsimp only at hd2 hf1
      have hD : isDash (mAt ms (k + 1)) = true := by rw [hA1]; simp only [isDash, hdash]; rfl
      by_cases hq2 : q + 1 = x.length
      · have hnil : ms.drop (k + 1 + 1).toNat = [] := hd2.trans (mkL_end (by omega) _)
        have h1 := at_nil (by omega) hnil
        exact single (fun h => h.2.2.1 hq2) (fun h => h1 h.1) _ _
      · obtain ⟨m2, f2, e2, hf2, hm2⟩ := mkL_head (x := x) (p := q + 1) (f := f1) (by omega) hf1
        obtain ⟨hk3, hA2, hd3⟩ := at_drop (by omega) (hd2.trans e2)
        have hany := any_end (ms := ms) (j := k + 1 + 1) (by omega) hk3
        cases hbr : (Txt.item x (q + 1) == Str.ofString "]") with
        | true =>
          have hesc2 : (Txt.item x (q + 1) == Str.ofString "\\") = false := eq_excl (by decide) hbr
          rcases hm2 with ⟨h', _⟩ | ⟨_, rfl⟩
          · rw [hesc2] at h'; cases h'
          have hE : endT ms (k + 1 + 1) = true := by rw [endT, hA2]; simp only [isEnd, hbr]; rfl
          refine single (fun h => ?_) (fun h => ?_) _ _
          · have := h.2.2.2
            rw [bne, hbr] at this
            cases this
          · rw [hany, hE] at h; cases h.2.2
        | false =>
          have hbn : (Txt.item x (q + 1) != Str.ofString "]") = true := by rw [bne, hbr]; rfl
          have hE : endT ms (k + 1 + 1) = false := by
            rw [endT, hA2]
            rcases hm2 with ⟨_, rfl⟩ | ⟨_, rfl⟩
            · simp [isEnd]
            · simp only [isEnd, hbr]; rfl
          have hC : q ≠ (x.length : Int) ∧ true = true ∧ q + 1 ≠ (x.length : Int) ∧ (Txt.item x (q + 1) != Str.ofString "]") = true := ⟨hq1, rfl, hq2, hbn⟩
          have hC2 : k + 1 + 1 < ((ms.map Mark.dat).length : Int) ∧ isDash (mAt ms (k + 1)) = true ∧ ((List.foldl (endG ms) [] (rangeKs 0 (((ms.map Mark.dat).length : Int) - 0).toNat)).any fun x => x == k + 1 + 1) = false := ⟨hk3, hD, hany.trans hE⟩
          have hno : ∀ z : Int, ¬ ((c == Str.ofString "") = true ∨ (Txt.item x z == Str.ofString "") = true) := fun z => by rw [hc, item_ne_nil]; simp
          rw [if_pos hC, if_pos hC2, hA2]
          rcases hm2 with ⟨he, rfl⟩ | ⟨he, rfl⟩
          · rw [if_pos he]
            dsimp only at hd3 hf2 ⊢
            by_cases hq3 : q + 2 = x.length
            · rw [if_pos hq3, if_pos]
              refine .inr ?_
              rw [show q + 1 + 2 = q + 1 + 1 + 1 by omega, slice_out (by omega)]
              decide
            · have hs : Txt.slice x (some (q + 1 + 1)) (some (q + 1 + 2)) = Txt.item x (q + 2) := by
                rw [show q + 1 + 2 = q + 1 + 1 + 1 by omega, slice_one (by omega) (by omega), show q + 1 + 1 = q + 2 by omega]
              rw [if_neg hq3, hs, if_neg (hno (q + 2)), b2i_or]
              rw [show q + 1 + 2 = q + 2 + 1 by omega] at hd3 hf2
              exact ih _ _ _ _ f2 (by omega) (by omega) (by omega) (by omega) (by omega) (by omega) hf2 (by rw [show k + 1 + 2 = k + 1 + 1 + 1 by omega]; exact hd3)
          · rw [if_neg (show ¬ (Txt.item x (q + 1) == Str.ofString "\\") = true by rw [he]; decide)]
            dsimp only at hd3 hf2 ⊢
            rw [if_neg (hno (q + 1)), b2i_or]
            rw [show q + 1 + 1 = q + 2 by omega] at hd3 hf2
            exact ih _ _ _ _ f2 (by omega) (by omega) (by omega) (by omega) (by omega) (by omega) hf2 (by rw [show k + 1 + 2 = k + 1 + 1 + 1 by omega]; exact hd3)
theorem rm_lc {x t : Str} {ng : Bool} {ms : List Mark} : ∀ (n : Nat) (p k : Int) (fd : Bool) (n' f : Nat), 0 ≤ p → p ≤ x.length → 0 ≤ k → k ≤ ((ms.map Mark.dat).length : Int) → (x.length : Int) - p < n → ((ms.map Mark.dat).length : Int) - k < n' → (x.length : Int) - p < f → ms.drop k.toNat = mkL x f p →
      rmL x t ng n p (b2i fd) = lcL ms t ng x.length n' k fd
  | 0, p, k, fd, n', f => fun _ _ _ _ h => by omega
  | n + 1, p, k, fd, 0, f => fun _ _ _ _ _ h => by omega
  | n + 1, p, k, fd, n' + 1, f => fun hp0 hp hk0 hk hpn hkn hf hd => by
    have hff : ¬ (false = true) := by decide
    rw [rmL, lcL]
    have fin : ∀ b : Int, (if b2i fd = (if ng = true then 1 else 0) then -1 else b) = lcFin ng b fd := fun b => by
      cases ng <;> cases fd <;> rfl
    by_cases hpe : p = x.length
    · rw [if_pos hpe, if_neg (at_nil hk0 (hd.trans (mkL_end (by omega) _))), fin, hpe]
    · obtain ⟨m, f', e, hf', hm⟩ := mkL_head (x := x) (p := p) (f := f) (by omega) hf
      obtain ⟨hk1, hA, hd1⟩ := at_drop hk0 (hd.trans e)
      rw [if_neg hpe, if_pos hk1, hA]
      rcases hm with ⟨he, rfl⟩ | ⟨he, rfl⟩
      · have hb : (Txt.item x p == Str.ofString "]") = false := eq_excl (by decide) he
        have hE : isEnd (Txt.slice x (some (p + 1)) (some (p + 2)), true, p + 2) = false := by simp [isEnd]
        rw [hb, if_neg hff, if_pos he, hE, if_neg hff]
        dsimp only at hd1 hf' ⊢
        by_cases hp1 : p + 1 = x.length
        · have hnil : ms.drop (k + 1).toNat = [] := hd1.trans (mkL_end (by omega) _)
          have h1 := at_nil (by omega) hnil
          rw [if_pos hp1, if_neg (fun h => h1 (by omega)), if_pos]
          rw [show p + 2 = p + 1 + 1 by omega, slice_out (by omega)]
          decide
        · have hs : Txt.slice x (some (p + 1)) (some (p + 2)) = Txt.item x (p + 1) := by
            rw [show p + 2 = p + 1 + 1 by omega, slice_one (by omega) (by omega)]
          rw [if_neg hp1, hs]
          rw [show p + 2 = p + 1 + 1 by omega] at hd1 hf'
          exact rm_tail (rm_lc n) (by omega) (by omega) (by omega) hk0 hk1 (by omega) hf' hd1 item_ne_nil
      · dsimp only at hd1 hf' ⊢
        cases hb : (Txt.item x p == Str.ofString "]") with
        | true =>
          have hE : isEnd (Txt.item x p, false, p + 1) = true := by simp only [isEnd, hb]; rfl
          rw [if_pos rfl, hE, if_pos rfl, fin]
        | false =>
          have hE : isEnd (Txt.item x p, false, p + 1) = false := by simp only [isEnd, hb]; rfl
          rw [if_neg hff, he, if_neg hff, hE, if_neg hff]
          exact rm_tail (rm_lc n) (by omega) (by omega) (by omega) hk0 hk1 (by omega) hf' hd1 item_ne_nil
theorem neg_ot {x : Str} {i : Int} (h0 : 0 ≤ i) (h1 : i < (x.length : Int)) : otF x i = negOf x i := by
  obtain ⟨c, _, e⟩ := item_cps h0 h1
  unfold otF negOf
  rw [e, StrLaws.found_one]
  have hs : (Str.ofString "!^").cps.toList = [33, 94] := by decide +kernel
  have ha : Str.ofString "!" = ⟨#[33]⟩ := by decide +kernel
  have hb : Str.ofString "^" = ⟨#[94]⟩ := by decide +kernel
  rw [hs, ha, hb]
  have hq : ∀ a : Nat, ((⟨#[c]⟩ : Str) == ⟨#[a]⟩) = decide (c = a) := fun a => by
    rw [Bool.eq_iff_iff, beq_iff_eq, decide_eq_true_eq]
    constructor
    · intro h; injection h with h; injection h with h; injection h
    · intro h; rw [h]
  rw [hq, hq, Bool.eq_iff_iff]
  simp
/-- range_match and the law's own reading agree, at every place of every text -/
theorem rmF_lcF {x t : Str} {i : Int} (h0 : 0 ≤ i) (h1 : i ≤ x.length) : rmF x i t = lcF x i t := by
  unfold rmF lcF
  by_cases h : i = x.length
  · rw [if_pos h, if_pos (by omega)]
  · have hi : i < (x.length : Int) := by omega
    rw [if_neg h, if_neg (show ¬ ((x.length : Int) ≤ i) by omega), neg_ot h0 hi]
    have hp : (if negOf x i = true then i + 1 else i) = i + if negOf x i = true then 1 else 0 := by split <;> omega
    rw [hp]
    have hb : 0 ≤ i + (if negOf x i = true then 1 else 0 : Int) ∧ i + (if negOf x i = true then 1 else 0 : Int) ≤ x.length := by split <;> omega
    have := rm_lc (x := x) (t := t) (ng := negOf x i) (ms := mkF x (i + if negOf x i = true then 1 else 0)) (x.length + 2) (i + if negOf x i = true then 1 else 0) 0 false
      ((mkF x (i + if negOf x i = true then 1 else 0)).length + 1) (x.length + 2) hb.1 hb.2 (Int.le_refl _) (by omega) (by omega) (by rw [List.length_map]; omega) (by omega) rfl
    exact this
end Mine
namespace Mine
abbrev st : Str := Str.ofString "*"
abbrev starF (y : Str) : Bool := !(Builtin.Str.occurrences y st 0 y.length 1).isEmpty
theorem star_cases (y : Str) : (Txt.find y st = -1 ∧ starF y = false) ∨
    ∃ i : Nat, i ≤ y.length ∧ Txt.find y st = (i : Int) ∧ starF y = true ∧ ∃ r, Txt.split y st = Builtin.Str.strSub y 0 i :: r := by
  unfold Txt.find starF
  rcases StrLaws.occ_head_from y st 0 1 (Nat.le_refl _) with ⟨h, _⟩ | ⟨i, r, h, _, hA, hm⟩
  · exact .inl ⟨by rw [h], by rw [h]; rfl⟩
  · rcases StrLaws.occ_head_from y st 0 (y.length + 1) (by omega) with ⟨_, hn⟩ | ⟨j, r', h', _, hA', hm'⟩
    · exact absurd hA (hn i (Nat.zero_le _))
    · have hij : i = j := by
        rcases Nat.lt_trichotomy i j with q | q | q
        · exact absurd hA (hm' i (Nat.zero_le _) q)
        · exact q
        · exact absurd hA' (hm j (Nat.zero_le _) q)
      subst hij
      have hw : st.length = 1 := by decide +kernel
      have hl : i + st.length ≤ y.length := hA.1
      refine .inr ⟨i, by omega, by rw [h], by rw [h]; rfl, ?_⟩
      have hk : ¬ Builtin.Str.strKind y < Builtin.Str.strKind st := by
        have : Builtin.Str.strKind st = 1 := by decide +kernel
        rw [this]
        unfold Builtin.Str.strKind
        split
        · decide
        · split <;> decide
      have hlt : ¬ y.length < st.length := by omega
      unfold Txt.split
      rw [if_neg (by simp only [Bool.or_eq_true, decide_eq_true_eq, not_or]; exact ⟨hlt, hk⟩), h', if_neg (by simp)]
      exact ⟨_, rfl⟩
theorem sub_slice (y : Str) {i : Nat} (h : i ≤ y.length) : Builtin.Str.strSub y 0 i = Txt.slice y none (some (i : Int)) := by
  have hy : y.cps.toList.length = y.length := by rw [Array.length_toList]; rfl
  rw [beq_iff_eq.mp (slice_closes_to (x := y) (j := i) ⟨by omega, by omega⟩)]
  exact StrLaws.mk_of_toList (by rw [StrLaws.strSub_toList]; simp)
theorem sub_len (y : Str) {i : Nat} (h : i ≤ y.length) : (Builtin.Str.strSub y 0 i).length = i := by
  show ((Builtin.Str.strSub y 0 i).cps.size) = i
  unfold Builtin.Str.strSub
  have : y.length = y.cps.size := rfl
  simp; omega
theorem slice_to_all {x : Str} {i : Int} (h : (x.length : Int) ≤ i) : Txt.slice x none (some i) = x := by
  unfold Txt.slice
  have hs : Builtin.Str.strSliceIndices none (some i) 1 x.length = Builtin.Str.strSliceIndices none (some (x.length : Int)) 1 x.length := by
    unfold Builtin.Str.strSliceIndices
    have a1 : ¬ (i < 0) := by omega
    have a2 : ¬ ((x.length : Int) < 0) := by omega
    simp only [a1, a2, if_false, show (1 : Int) > 0 by decide, if_true]
    rw [show max 0 (min i (x.length : Int)) = max 0 (min (x.length : Int) (x.length : Int)) by omega]
  rw [hs]
  have hx : x.cps.toList.length = x.length := by rw [Array.length_toList]; rfl
  have h2 := beq_iff_eq.mp (slice_closes_to (x := x) (j := x.length) ⟨by omega, by omega⟩)
  have h3 : Txt.slice x none (some (x.length : Int)) = x := by
    rw [h2]
    refine (StrLaws.mk_of_toList ?_).symm
    rw [show (Int.toNat 0) = 0 from rfl, List.drop_zero, show ((x.length : Int) - 0).toNat = x.cps.toList.length by omega, List.take_length]
  exact h3
/-- key_match tells what the law asks -/
theorem km_due (x y b : Str) (r : List Str) (hb : Txt.split y st = b :: r) : kmF x y = (x == y || (starF y && Txt.slice x none (some (b.length : Int)) == b)) := by
  unfold kmF
  rcases star_cases y with ⟨h1, h2⟩ | ⟨i, hi, h1, h2, r', hr⟩
  · rw [if_pos h1, h2]; simp
  · have e : b = Builtin.Str.strSub y 0 i := by rw [hb] at hr; exact (List.cons.inj hr).1
    have el : b.length = i := by rw [e]; exact sub_len y hi
    have es : b = Txt.slice y none (some (i : Int)) := by rw [e]; exact sub_slice y hi
    rw [h1, h2, if_neg (by omega), el, Bool.true_and]
    rw [← es]
    have himp : x = y → Txt.slice x none (some (i : Int)) = b := fun q => by rw [q]; exact es.symm
    by_cases hlt : (i : Int) < (x.length : Int)
    · rw [if_pos hlt]
      by_cases q : x = y
      · rw [himp q]; simp
      · have : (x == y) = false := beq_eq_false_iff_ne.mpr q
        rw [this, Bool.false_or]
    · have ex : Txt.slice x none (some (i : Int)) = x := slice_to_all (by omega)
      rw [if_neg hlt, ex]
      by_cases q : x = y
      · have := himp q
        rw [ex] at this
        rw [← this]; simp
      · have : (x == y) = false := beq_eq_false_iff_ne.mpr q
        rw [this, Bool.false_or]
/-- key_get tells what the law asks -/
theorem kg_due (x y b : Str) (r : List Str) (hb : Txt.split y st = b :: r) : kgF x y = if (kmF x y && starF y) = true then Txt.slice x (some (b.length : Int)) none else Str.ofString "" := by
  rcases star_cases y with ⟨h1, h2⟩ | ⟨i, hi, h1, h2, r', hr⟩
  · rw [kgF, if_pos h1, h2, Bool.and_false, if_neg (by decide)]
  · have e : b = Builtin.Str.strSub y 0 i := by rw [hb] at hr; exact (List.cons.inj hr).1
    have el : b.length = i := by rw [e]; exact sub_len y hi
    have hm : ¬ ((i : Int) = -1) := by omega
    rw [kgF, kmF, h1, h2, if_neg hm, if_neg hm, el, Bool.and_true]
    by_cases hlt : (i : Int) < (x.length : Int)
    · rw [if_pos hlt, if_pos hlt]
    · rw [if_neg hlt, if_neg hlt]
      split
      · rw [slice_beyond (by omega)]; rfl
      · rfl
end Mine
section
open PySem.Spec PySem.Calls
namespace Mine
section
variable {prog : Program} {w : World} {A : Around} {E : Value → Shared → Prop} {s : Shared} {h₀ : Heap} {L : Addr} {m : Str → Option Value} {news : List (Addr × Obj)}
theorem applied_two {sl : Addr} {u : Tok} {Q : Int × Int × Nat → Shared → Prop} (hs : s.heap.IsSliceOf sl .none (.int 2 u) .none) (h : Q (0, 1, 2) s) :
    wpAny (model prog w) A (Builtin.Slice.sliceApplied (.ref sl) (pure (3 : Int))) Q E s := by
  obtain ⟨os, hos, _, hds⟩ := id hs
  unfold Builtin.Slice.sliceApplied Builtin.Slice.sliceFields
  refine wpAny_bind (wpAny_bind (wpAny_field hos hds (x := .none) rfl (wpAny_bind (wpAny_field hos hds (x := .int 2 u) rfl (wpAny_bind (wpAny_field hos hds (x := .none) rfl (wpAny_pure ?_)))))))
  refine wpAny_bind (slicePart_none ?_)
  show wpAny _ _ (if ((1 : Int) == 0) = true then _ else _) _ _ s
  rw [if_neg (by decide)]
  refine wpAny_bind (slicePart_none (wpAny_bind (slicePart_int (wpAny_bind (wpAny_pure ?_)))))
  show wpAny _ _ (match Builtin.Slice.sliceAdjust none (some 2) 1 3 with | (lo, hi) => pure (lo, (1 : Int), Builtin.Slice.slicePlaces lo hi 1)) _ _ s
  exact wpAny_pure h
theorem get_two {t sl : Addr} {a b c : Value} {u : Tok} {Q : Value → Shared → Prop} (ht : IsTup s.heap t #[a, b, c]) (hs : s.heap.IsSliceOf sl .none (.int 2 u) .none)
    (h : Q (.ref s.heap.objs.size) { s with heap := s.heap.push { cls := .type "tuple", data := .seq #[a, b] } }) : wpAny (model prog w) A (getItem (.ref t) (.ref sl)) Q E s := by
  have hsz : sizeOk (.seq #[a, b]) := by
    show (2 : Nat) ≤ sizeLine
    rw [PySem.sizeLine_eq]; decide
  obtain ⟨os, hos, hcs, _⟩ := id hs
  have hTs : s.TypeIs (.ref sl) "slice" := ⟨os, hos, hcs⟩
  unfold getItem
  try with_reducible refine wpAny_holding ?_
  first | refine wpAny_bind (wpAny_pure ?_) | skip
  refine wpAny_bind (wpAny_sequenceKey ht.typeIs (by decide) ?_)
  refine wpAny_bind (wpAny_callSpecial?_slot (name := Str.ofString "__getitem__") ht.typeIs slot_tuple_getitem
    (wpAny_call_entry slot_tuple_getitem ht.typeIs entry_tuple_getitem ?_ (args_tuple_getitem _ _)))
  show wpAny _ _ (Builtin.Tuple.tupleItemsOf (.ref t) >>= _) _ _ s
  refine wpAny_bind (tupleItemsOf_ ht ?_)
  refine wpAny_bind (wpAny_typeOf hTs ?_)
  rw [if_pos (by decide)]
  refine wpAny_bind (applied_two hs ?_)
  show wpAny _ _ (if false = true then _ else _) _ _ s
  rw [if_neg (by decide)]
  first
    | exact wpAny_bind (m := Builtin.Tuple.tupleExact _) (wpAny_newObj_type (wpAny_pure ⟨_, rfl, wpAny_pure h⟩) hsz)
    | exact wpAny_bind (m := Builtin.Tuple.tupleExact _) (wpAny_newObj_type (wpAny_bind (wpAny_pure (wpAny_pure ⟨_, rfl, wpAny_pure h⟩))) hsz)
    | exact wpAny_bind (wpAny_bind (m := Builtin.Tuple.tupleExact _) (wpAny_newObj_type (wpAny_pure (wpAny_pure ⟨_, rfl, wpAny_pure h⟩)) hsz))
    | exact wpAny_bind (wpAny_bind (m := Builtin.Tuple.tupleExact _) (wpAny_newObj_type (wpAny_pure ⟨_, rfl, wpAny_pure h⟩) hsz))
theorem slice_two {value slice : Expr} {t : Addr} {a b c : Value} {u : Tok} {Q : Value → Shared → Prop}
    (F : Fr h₀ L s.heap m) (N : News h₀ L s.heap news) (ht : IsTup s.heap t #[a, b, c])
    (h : ∀ D h', Fr h₀ L h' m → News h₀ L h' ((D, { cls := .type "tuple", data := .seq #[a, b] }) :: news) → (∀ p ∈ news, p.1 < D) → Q (.ref D) { s with heap := h' })
    (hs : subscripted slice false (.ref t) (.ref s.heap.objs.size) = operate [.ref s.heap.objs.size, .ref t] (getItem (.ref t) (.ref s.heap.objs.size)) := by with_unfolding_all rfl)
    (hg : ∀ r, letTemporaryGo value (.ref t) r = pure () := by intro _; with_unfolding_all rfl) :
    wpAny (model prog w) A (subscriptTail value slice (.ref t) (.ref s.heap.objs.size)) Q E { s with heap := s.heap.push { cls := .type "slice", data := .fields #[.none, .int 2 u, .none] } } := by
  have ht' : IsTup (s.heap.push { cls := .type "slice", data := .fields #[.none, .int 2 u, .none] }) t #[a, b, c] := ht.keeps fun _ _ e => Heap.get?_push_of_some _ e
  refine subscriptTail_ops (s := { s with heap := s.heap.push { cls := .type "slice", data := .fields #[.none, .int 2 u, .none] } }) ht'.typeIs slot_tuple_getitem.lookup
    (get_two ht' (Heap.IsSliceOf.new ..) ?_) hs hg
  have N1 := News.push (F.push { cls := .type "slice", data := .fields #[.none, .int 2 u, .none] }) (N.grown fun _ _ e => Heap.get?_push_of_some _ e) { cls := .type "tuple", data := .seq #[a, b] }
  rw [Heap.size_push] at N1
  show Q (.ref (s.heap.push _).objs.size) _
  rw [Heap.size_push]
  exact h _ _ ((F.push _).push _) N1 fun p hp => Nat.lt_succ_of_lt (Heap.lt_size (N p hp).1)
theorem eq_two {a b : Addr} {x y : Str} {p q : Bool} {t t' : Tok} {n n' : Nat} {Q : Value → Shared → Prop} (N : News h₀ L s.heap news)
    (h1 : (a, ({ cls := .type "tuple", data := .seq #[.str x t, .bool p] n } : Obj)) ∈ news) (h2 : (b, ({ cls := .type "tuple", data := .seq #[.str y t', .bool q] n' } : Obj)) ∈ news)
    (hx : PyData.strOk x = true) (hy : PyData.strOk y = true) (hu : A.units + 64 < cLine) (h : Q (.bool (x == y && p == q)) s) : wpAny (model prog w) A (compareOp .Eq (.ref a) (.ref b)) Q E s := by
  refine eq_dataH (reads_tuple_at (N.get h1) rfl rfl (ReadsAll.cons (Reads.str _ _) (ReadsAll.cons (Reads.bool _) ReadsAll.nil))) (reads_tuple_at (N.get h2) rfl rfl (ReadsAll.cons (Reads.str _ _) (ReadsAll.cons (Reads.bool _) ReadsAll.nil))) (by simp [SeqAt.shaped, PyData.canLay0, PyData.canLayAll0, PyData.depth, PyData.depthAll, *]) (by simp [SeqAt.shaped, PyData.canLay0, PyData.canLayAll0, PyData.depth, PyData.depthAll, *]) hu ?_
  have e : PyData.eqv (.tuple [.str x, .bool p]) (.tuple [.str y, .bool q]) = (x == y && p == q) := by
    simp only [PyData.eqv, PyData.eqvAll, Bool.and_true]
  rw [e]
  exact h
end
end Mine
end
namespace Mine
theorem cb_use {prog : Program} {w : World} {K : Frag} {p : Program} {loose : List Str} {mean : ExcName → Option Value} {mg mb : Str → Option Value} {f : Addr} {news : List (Addr × Obj)} {pre : Prop} {vs : List Value} {R : Tok → Value}
    {dp un : Nat} {gd : Option (List Code)} {cn : Str} {cs : Scope} {a : Addr} {ccd : Value} {cl : List (Str × Addr)} {outer : List Env} {A₀ : Around} {base h₀ : Heap} {L : Addr} {m : Str → Option Value} {s : Shared} {Q E : Value → Shared → Prop}
    (C : CbClaim prog w K p loose mean mg mb f news [] pre vs R)
    (B : Below A₀ base outer h₀) (F : Fr h₀ L s.heap m) (X : K.In h₀) (N : News h₀ L s.heap news) (T : Top p loose mean mg mb h₀) (hk : cs.kind = .function)
    (hp : pre) (hd : dp + 1 < recursionLimit) (hu : un + 8 < cLine) (ret : CbRet h₀ L m news s Q R) :
    wpAny (model prog w) (ktrTop dp un gd cn cs L a ccd cl outer) (call (.ref f) vs) Q E s :=
  C dp un gd cn cs a ccd cl outer A₀ base h₀ L m s Q E B F X N T hk hp hd hu ret
end Mine
namespace Mine
def ItEnd (h₀ : Heap) (L : Addr) (s : Shared) (I : Addr) (oI : Obj) (J : (Str → Option Value) → List (Addr × Obj) → Prop) (s₃ : Shared) : Prop :=
  ∃ h' tk m' nx, s₃ = { s with heap := h', toks := tk } ∧ Fr h₀ L h' m' ∧ News h₀ L h' ((I, oI) :: nx) ∧ J m' nx
def ItPost (h₀ : Heap) (L : Addr) (s : Shared) (Q : Flow → Shared → Prop) (I : Addr) (oI : Obj) (J : (Str → Option Value) → List (Addr × Obj) → Prop) (f : Flow) (s₃ : Shared) : Prop :=
  match f with
  | .ret v => Q (.ret v) s₃
  | .brk => Q .next s₃
  | _ => ItEnd h₀ L s I oI J s₃
theorem iter_any {prog : Program} {w : World} {A : Around} {E : Value → Shared → Prop} {s : Shared} {env : Env} {h₀ : Heap} {L : Addr} {x : Str} {px : Pos} {body : List Stmt} {Q : Flow → Shared → Prop}
    {l : Addr} {vs : List Value} {nn : Nat} {m₀ : Str → Option Value} {keep : List (Addr × Obj)} (J : (Str → Option Value) → List (Addr × Obj) → Prop)
    (hh : A.handled = none) (F : Fr h₀ L s.heap m₀) (N : News h₀ L s.heap keep) (hJ : J m₀ keep)
    (hJl : ∀ m nx, J m nx → (l, listOf vs.toArray nn) ∈ nx) (hJa : ∀ m nx, J m nx → nx.map (·.1) = keep.map (·.1))
    (turn : ∀ v I oI m nx h tk, v ∈ vs → J m nx → (∀ p ∈ keep, p.1 < I) → Fr h₀ L h m → News h₀ L h ((I, oI) :: nx) →
      wpAny (model prog w) A (assign (.Name x px) env v) (fun _ s₂ => wpAny (model prog w) A (execs body env) (ItPost h₀ L s Q I oI J) (fun _ _ => False) s₂) (fun _ _ => False) { s with heap := h, toks := tk })
    (done : ∀ m nx h tk, J m nx → Fr h₀ L h m → News h₀ L h nx → Q .next { s with heap := h, toks := tk }) :
    wpAny (model prog w) A (pyIter (.ref l)) (fun it s₂ => codeAny (model prog w) A (.forLoop (.Name x px) it body [] env) (fun r s' => match r with | .ok f => Q f s' | .error e => cameBackBy (model prog w) A env E e s') s₂) E s := by
  have hl := hJl _ _ hJ
  have hol : s.heap.get? l = some (listOf vs.toArray nn) := (N _ hl).1
  refine wpAny_pyIter_list ⟨_, hol, rfl, nn, rfl⟩ ?_
  have hlt : ∀ p ∈ keep, p.1 < s.heap.objs.size := fun p hp => Heap.lt_size (N p hp).1
  have hne : ∀ m nx, J m nx → ∀ p ∈ nx, p.1 ≠ s.heap.objs.size := fun m nx hj p hp => by
    have : p.1 ∈ keep.map (·.1) := (hJa m nx hj) ▸ List.mem_map_of_mem hp
    obtain ⟨q, hq, e⟩ := List.mem_map.mp this
    exact e ▸ Nat.ne_of_lt (hlt q hq)
  have hIL : s.heap.objs.size ≠ L := Ne.symm (Nat.ne_of_lt F.ns.lt)
  have hI0 : h₀.get? s.heap.objs.size = none := next_is_new F
  refine codeAny_forLoop (fun n s' => ∃ h tk m nx i, s' = { s with heap := h, toks := tk } ∧ h.IsListIter s.heap.objs.size l i ∧ Fr h₀ L h m ∧ News h₀ L h nx ∧ J m nx ∧ i ≤ vs.length ∧ n = vs.length + 1 - i) ?_ (vs.length + 1)
    ⟨_, s.toks, m₀, keep, 0, rfl, ⟨_, Heap.get?_push_size _ rfl, rfl, rfl⟩, F.push _, fun p hp => ⟨Heap.get?_push_of_some _ (N p hp).1, (N p hp).2⟩, hJ, Nat.zero_le _, rfl⟩
  rintro n s' ⟨h, tk, m, nx, i, rfl, hit, F₁, N₁, hj, hi, rfl⟩
  have hol₁ : h.IsList l vs.toArray := ⟨_, (N₁ _ (hJl _ _ hj)).1, rfl, nn, rfl⟩
  have oldI : ∀ b o, h₀.get? b = some o → b ≠ s.heap.objs.size := fun b o e q => by rw [q, hI0] at e; cases e
  by_cases hlt' : i < vs.length
  · refine wpAny_pyNext_list_item hit hol₁ (x := vs[i]) (by simp [hlt']) fun h' hit' hs' => ?_
    obtain ⟨oI, hoI, hcI, hdI⟩ := id hit'
    have F₂ : Fr h₀ L h' m := ⟨F₁.ns.sameBut hs' (Ne.symm hIL), fun b o e => (hs'.2 b (oldI b o e)).trans (F₁.keep b o e), F₁.above⟩
    have N₂ : News h₀ L h' ((s.heap.objs.size, oI) :: nx) := fun p hp => by
      rcases List.mem_cons.mp hp with rfl | hp
      · exact ⟨hoI, hIL, hI0⟩
      · exact ⟨(hs'.2 p.1 (hne _ _ hj p hp)).trans (N₁ p hp).1, (N₁ p hp).2⟩
    refine wpAny_mono (turn vs[i] s.heap.objs.size oI m nx h' tk (List.getElem_mem _) hj hlt F₂ N₂) (fun _ s₂ h₂ => ?_) fun _ _ x => x.elim
    refine wpAny_mono h₂ (fun f s₃ h₃ => ?_) fun _ _ x => x.elim
    have fin : ItEnd h₀ L s s.heap.objs.size oI J s₃ → ∃ k, k < vs.length + 1 - i ∧ ∃ h tk m nx i', s₃ = { s with heap := h, toks := tk } ∧ h.IsListIter s.heap.objs.size l i' ∧ Fr h₀ L h m ∧ News h₀ L h nx ∧ J m nx ∧ i' ≤ vs.length ∧ k = vs.length + 1 - i' := by
      rintro ⟨h3, tk3, m3, nx3, rfl, F3, N3, hj3⟩
      exact ⟨vs.length + 1 - (i + 1), by omega, h3, tk3, m3, nx3, i + 1, rfl, ⟨oI, (N3 _ (.head _)).1, hcI, hdI⟩, F3, fun p hp => N3 p (.tail _ hp), hj3, hlt', rfl⟩
    cases f with
    | ret v => exact h₃
    | brk => exact h₃
    | next => exact fin h₃
    | cont => exact fin h₃
  · refine wpAny_pyNext_list_end hh hit hol₁ (by simp; omega) fun h' he' => wpAny_execs_nil ?_
    exact done m nx h' tk hj ⟨F₁.ns.extBut he' (Ne.symm hIL), fun b o e => he' b o (oldI b o e) (F₁.keep b o e), F₁.above⟩
      fun p hp => ⟨he' p.1 p.2 (hne _ _ hj p hp) (N₁ p hp).1, (N₁ p hp).2⟩
end Mine
namespace Mine
section
variable {prog : Program} {w : World} {A : Around} {E : Value → Shared → Prop} {s : Shared} {h₀ : Heap} {L l D : Addr} {m : Str → Option Value} {news : List (Addr × Obj)} {Q : Value → Shared → Prop} {value slice : PySem.Expr} {x y : Str} {t u : Tok}
theorem len1_pos (x : Str) : 0 < (x.length : Int) + 1 := by omega
theorem le8 {n : Nat} (h : n ≤ 8) : n ≤ 1000 := by omega
theorem le12 {n : Nat} (h : n ≤ 12) : n ≤ 1000 := by omega
theorem menu5 {vs : List Value} {i : Int} {a b c d e : Str} (hl : s.heap.IsList l vs.toArray) (hw : StrsAre vs [a, b, c, d, e]) (h0 : 0 ≤ i) (h1 : i < 5) (hm : ∀ z ∈ [a, b, c, d, e], z.length ≤ 4) (h : ∀ (mo : Str) t', mo.length ≤ 4 → Q (.str mo t') s)
    (hs : subscripted slice false (.ref l) (.int i u) = operate [.ref l, .int i u] (getItem (.ref l) (.int i u)) := by with_unfolding_all rfl) :
    wpAny (model prog w) A (subscriptTail value slice (.ref l) (.int i u)) Q E s :=
  KTb.item_list hl hw h0 (by simpa using h1) (by omega) (fun t' hlt => h _ t' (by
    rw [List.getD_eq_getElem?_getD, List.getElem?_eq_getElem hlt]
    exact hm _ (List.getElem_mem hlt))) hs
theorem add_gen (hx : x.length ≤ 8) (hy : y.length ≤ 4) (h : ∀ (z : Str) t' tk, z.length ≤ 12 → Q (.str z t') { s with toks := tk }) : wpAny (model prog w) A (binaryOp .Add (.str x t) (.str y u)) Q E s :=
  add_str (fun t' tk => h _ t' tk (by rw [Str.length_append]; omega)) (by rw [PySem.sizeLine_eq]; omega)
theorem slice_le8 {a b : Option Int} (h : x.length ≤ 8) : (Txt.slice x a b).length ≤ 8 := Nat.le_trans (PyProof.Txt.length_slice_le _ _ _) h
theorem split_ne (y : Str) : ∃ b r, Txt.split y st = b :: r ∧ b.length ≤ y.length := by
  rcases star_cases y with ⟨h1, h2⟩ | ⟨i, hi, _, _, r, hr⟩
  · refine ⟨y, [], ?_, Nat.le_refl _⟩
    unfold Txt.split
    split
    · rfl
    · rcases StrLaws.occ_head_from y st 0 (y.length + 1) (by omega) with ⟨h, _⟩ | ⟨j, r', h', _, hA', _⟩
      · rw [h]; rfl
      · rcases StrLaws.occ_head_from y st 0 1 (Nat.le_refl _) with ⟨h3, hn⟩ | ⟨j2, r2, h3, _⟩
        · exact absurd hA' (hn j (Nat.zero_le _))
        · rw [starF, h3] at h2; cases h2
  · exact ⟨_, r, hr, by rw [sub_len y hi]; exact hi⟩
theorem split_head (hF : Fr h₀ L s.heap m) (hN : News h₀ L s.heap news) (hx : x.length ≤ 12)
    (h : ∀ D l' b tb r h' k, Txt.split x st = b :: r → b.length ≤ 12 → Fr h₀ L h' m → News h₀ L h' ((D, listOf (Value.str b tb :: strValues l').toArray 0) :: news) → (∀ p ∈ news, p.1 < D) → Q (.ref D) { s with heap := h', toks := k }) :
    wpAny (model prog w) A (call (.builtin "str.split") [.str x t, .str (Str.ofString "*") u]) Q E s :=
  KSpl.split1 hF hN (by decide +kernel) (fun D l h' k e _ F N lt => by
    obtain ⟨b, r, hb, hl⟩ := split_ne x
    obtain ⟨tb, l', rfl, _⟩ := KSpl.cons_of (e.trans hb)
    exact h D l' b tb r h' k hb (Nat.le_trans hl hx) F N lt) (by rw [PySem.sizeLine_eq]; omega)
theorem head_item {v : Value} {vs : List Value} (hl : s.heap.IsList l (v :: vs).toArray) (h : Q v s)
    (hs : subscripted slice false (.ref l) (.int 0 u) = operate [.ref l, .int 0 u] (getItem (.ref l) (.int 0 u)) := by with_unfolding_all rfl) :
    wpAny (model prog w) A (subscriptTail value slice (.ref l) (.int 0 u)) Q E s :=
  tail_any hl.typeIs slot_list_getitem.lookup (wpAny_getItem_list hl (Int.le_refl _) (by decide) (by simp) h) hs
theorem size12 {n : Nat} (h : n ≤ 12) : n ≤ sizeLine := by rw [PySem.sizeLine_eq]; omega
theorem size8 {n : Nat} (h : n ≤ 8) : n ≤ sizeLine := by rw [PySem.sizeLine_eq]; omega
end
end Mine
namespace Mine
section
variable {x p b : Str} {r : List Str}
abbrev eeF (p : Str) : Bool := (Builtin.Str.occurrences p (Str.ofString "*") 0 p.length 1).isEmpty
theorem b3 : ∀ {km e ee sl : Bool}, km = (e || (!ee && sl)) → (e = true → (km != e) = true → False) ∧ (e = false → ee = true → (km != !ee) = true → False) ∧ (e = false → ee = false → (km != sl) = true → False)
  | km, e, ee, sl, h => by subst h; cases e <;> cases ee <;> cases sl <;> simp
theorem x2 (hb : Txt.split p st = b :: r) (h1 : (x == p) = true) (h2 : (kmF x p != (x == p)) = true) : False := (b3 (km_due x p b r hb)).1 h1 h2
theorem x5 (hb : Txt.split p st = b :: r) (h1 : (x == p) = false) (h2 : eeF p = true) (h3 : (kmF x p != !eeF p) = true) : False := (b3 (km_due x p b r hb)).2.1 h1 h2 h3
theorem x8 (hb : Txt.split p st = b :: r) (h1 : (x == p) = false) (h2 : eeF p = false) (h3 : (kmF x p != (Txt.slice x none (some (b.length : Int)) == b)) = true) : False := (b3 (km_due x p b r hb)).2.2 h1 h2 h3
theorem ne_false {a c : Str} (h : (a != c) = true) (e : a = c) : False := by rw [e] at h; simp at h
theorem x3 (hb : Txt.split p st = b :: r) (h2 : (if (!eeF p) = true then 1 else 0 : Int) = 0) (h3 : (kgF x p != Str.ofString "") = true) : False := by
  have hs : starF p = false := by
    cases q : eeF p with
    | true => rw [starF, show (Builtin.Str.occurrences p st 0 p.length 1).isEmpty = true from q]; rfl
    | false => rw [q] at h2; exact absurd h2 (by decide)
  exact ne_false h3 (by rw [kg_due x p b r hb, hs, Bool.and_false, if_neg (by decide)])
theorem x6 (hb : Txt.split p st = b :: r) (h2 : eeF p = true) (h3 : (kgF x p != Str.ofString "") = true) : False :=
  x3 hb (by rw [h2]; rfl) h3
theorem x4 (hb : Txt.split p st = b :: r) (h1 : (x == p) = true) (h2 : (if (!eeF p) = true then 1 else 0 : Int) = 1) (h3 : (kgF x p != Txt.slice x (some (b.length : Int)) none) = true) : False := by
  have hs : starF p = true := by
    cases q : eeF p with
    | false => rw [starF, show (Builtin.Str.occurrences p st 0 p.length 1).isEmpty = false from q]; rfl
    | true => rw [q] at h2; exact absurd h2 (by decide)
  exact ne_false h3 (by rw [kg_due x p b r hb, km_due x p b r hb, h1, hs, if_pos (by simp)])
theorem x7 (h2 : eeF p = true) (h3 : (if (!eeF p) = true then 1 else 0 : Int) = 1) : False := by
  rw [h2] at h3; exact absurd h3 (by decide)
theorem x9 (h2 : eeF p = false) (h3 : (if (!eeF p) = true then 1 else 0 : Int) = 0) : False := by
  rw [h2] at h3; exact absurd h3 (by decide)
theorem x10 (hb : Txt.split p st = b :: r) (h2 : eeF p = false) (hs : (Txt.slice x none (some (b.length : Int)) == b) = true) (h3 : (kgF x p != Txt.slice x (some (b.length : Int)) none) = true) : False := by
  have hp : starF p = true := by rw [starF, show (Builtin.Str.occurrences p st 0 p.length 1).isEmpty = false from h2]; rfl
  exact ne_false h3 (by rw [kg_due x p b r hb, km_due x p b r hb, hs, hp, if_pos (by simp)])
theorem x11 (hb : Txt.split p st = b :: r) (h1 : (x == p) = false) (hs : (Txt.slice x none (some (b.length : Int)) == b) = false) (h3 : (kgF x p != Str.ofString "") = true) : False :=
  ne_false h3 (by rw [kg_due x p b r hb, km_due x p b r hb, hs, h1, Bool.and_false, Bool.false_or, Bool.false_and, if_neg (by decide)])
theorem x12 (hs : (Txt.slice x none (some (b.length : Int)) == b) = false) (h3 : (if (Txt.slice x none (some (b.length : Int)) == b) = true then 1 else 0 : Int) = 1) : False := by
  rw [hs] at h3; exact absurd h3 (by decide)
theorem k1 : kmF (Str.ofString "") (Str.ofString "") = true := by decide +kernel
theorem k2 : kmF (Str.ofString "") (Str.ofString "*") = true := by decide +kernel
theorem k3 : kmF (Str.ofString "") (Str.ofString "a*") = false := by decide +kernel
theorem k4 : (kgF (Str.ofString "") (Str.ofString "*") == Str.ofString "") = true := by decide +kernel
theorem no_tf {c : Bool} (h : c = true) (h2 : c = false) : False := by rw [h] at h2; cases h2
end
end Mine
namespace Mine
open_top hd01 for PySem.Challenge.rw_jl0002_02
end Mine
namespace Mine
local macro_rules | `(tactic| walk_at "execs cons") => `(tactic| (k_here; (with_reducible refine gen_toks (fun tk => ?_)); (with_reducible refine wpAny_execs_cons ?_); try dsimp only))
local macro_rules | `(tactic| walk_at "KswEnd") => `(tactic| (
  (with_reducible rename rmI _ _ _ _ _ => kI9); (with_reducible rename Fr _ _ _ _ => lF9); (with_reducible rename News _ _ _ _ => lN9); 
  k_dflt (refine' ksw_end (⟨_, _, _, _⟩ : Int × Tok × Int × Tok) lF9 lN9 ?e1 trivial ?e2 ?e3 ?e4 ?e5)
  (case e1 => exact fun _ h => h)
  (case e2 => kst_all)
  
  (case e3 => k_dflt ksw_same)
  
  (case e4 => (dsimp only; refine rmI.step kI9 ?b1 ?b2; (case b1 => (omega)); (case b2 => (intro n9; simp [rmL, rmT, inR, *]))))
  (case e5 => (dsimp only; omega))))
structure CutMark : Prop where
  mark :: (one : True)
theorem cutMark : CutMark := ⟨trivial⟩
def setM (m : Str → Option Value) (k : Str) (v : Value) : Str → Option Value := fun z => if z = k then some v else m z
def CutS (h₀ : Heap) (L : Addr) (s : Shared) (news : List (Addr × Obj)) (m : Str → Option Value) (k : Str) (V : Tok → Value) (f : Flow) (s' : Shared) : Prop :=
  f = .next ∧ ∃ (t : Tok) (h : Heap) (tk : Nat), s' = { s with heap := h, toks := tk } ∧ Fr h₀ L h (setM m k (V t)) ∧ News h₀ L h news
theorem cut_stmt {M : Model} {A : Around} {E : Value → Shared → Prop} {Q : Flow → Shared → Prop} {s : Shared} {S : Sem Flow} {h₀ : Heap} {L : Addr} {m : Str → Option Value} {news : List (Addr × Obj)} (k : Str) (V : Tok → Value) (_F : Fr h₀ L s.heap m) (_N : News h₀ L s.heap news)
    (h1 : wpAny M A S (CutS h₀ L s news m k V) E s) (h2 : ∀ t h tk, Fr h₀ L h (setM m k (V t)) → News h₀ L h news → Q .next { s with heap := h, toks := tk }) : wpAny M A S Q E s :=
  wpAny_mono h1 (fun f s' hc => by
    obtain ⟨rfl, t, h, tk, rfl, F, N⟩ := hc
    exact h2 t h tk F N) fun _ _ x => x
theorem cut_const {h₀ : Heap} {L : Addr} {s : Shared} {m : Str → Option Value} {news : List (Addr × Obj)} {k : Str} {v₀ v : Value} {h : Heap} {tk : Nat} (F : Fr h₀ L h (setM m k v)) (N : News h₀ L h news) (e : v₀ = v) : CutS h₀ L s news m k (fun _ => v₀) .next { s with heap := h, toks := tk } :=
  ⟨rfl, 0, h, tk, rfl, e ▸ F, N⟩
theorem cut_intv {h₀ : Heap} {L : Addr} {s : Shared} {m : Str → Option Value} {news : List (Addr × Obj)} {k : Str} {p v : Int} {t : Tok} {h : Heap} {tk : Nat} (F : Fr h₀ L h (setM m k (.int v t))) (N : News h₀ L h news) (e : p = v) : CutS h₀ L s news m k (fun t => .int p t) .next { s with heap := h, toks := tk } :=
  ⟨rfl, t, h, tk, rfl, e ▸ F, N⟩
theorem cut_same {h₀ : Heap} {L : Addr} {s : Shared} {m : Str → Option Value} {news : List (Addr × Obj)} {k : Str} {p v : Int} {t : Tok} {h : Heap} {tk : Nat} (F : Fr h₀ L h m) (N : News h₀ L h news) (hk : m k = some (.int v t)) (e : p = v) : CutS h₀ L s news m k (fun t => .int p t) .next { s with heap := h, toks := tk } := by
  refine ⟨rfl, t, h, tk, rfl, ?_, N⟩
  have : setM m k (.int p t) = m := by
    funext z
    unfold setM
    split
    · rename_i q
      rw [q, hk, e]
    · rfl
  rw [this]
  exact F
local macro_rules | `(tactic| walk_at "exec Assign cons BoolOp") => `(tactic| ((fail_if_success (with_reducible rename CutMark => hc9)); k_extra "exec Assign cons BoolOp"))
local macro_rules | `(tactic| walk_at "exec If Name") => `(tactic| ((fail_if_success (with_reducible rename CutMark => hc9)); k_extra "exec If Name"))
local macro_rules | `(tactic| walk_at "CutS") => `(tactic| (
  (with_reducible rename Fr _ _ _ _ => lF9)
  (with_reducible rename News _ _ _ _ => lN9)
  (k_dflt (first
    | refine' cut_const lF9 lN9 ?e
    | refine' cut_intv lF9 lN9 ?e
    | (refine' cut_same lF9 lN9 ?hk ?e; (case hk => rfl))))
  (case e => (first | rfl | (simp [*]; done) | (simp [negOf, *]; done)))))
theorem rm_tells (w : World) (mean : ExcName → Option Value) (mg mb : Str → Option Value) (news : List (Addr × Obj)) (x : Str) (i : Int) (t : Str) (tx ti tt : Tok) :
    CbClaim PySem.Challenge.rw_jl0002_02.row.prog w (hd01.heap_39 w.params) hd01.view_39 (looseW hd01.view_39 []) mean mg mb 35 news [] (x.length ≤ 1000 ∧ 0 ≤ i ∧ i ≤ x.length) [.str x tx, .int i ti, .str t tt] (fun tk => .int (rmF x i t) tk) := by
  k_with_none
  k_fill
  k_with "exec Assign cons BoolOp" => (
    (fail_if_success (with_reducible rename CutMark => hc9))
    (with_reducible rename Fr _ _ _ _ => lF9); (with_reducible rename News _ _ _ _ => lN9)
    (k_dflt (refine' cut_stmt (Str.ofString "negate") (fun _ => .bool (negOf x i)) lF9 lN9 ?_ ?_))
    have kCut := cutMark
    rotate_left
    intro t9 h9 tk9 F9 N9
    (try dsimp only [setM] at F9)
    (try k_fold)
    rotate_left)
  k_with "exec If Name" => (
    (fail_if_success (with_reducible rename CutMark => hc9))
    (with_reducible rename Fr _ _ _ _ => lF9); (with_reducible rename News _ _ _ _ => lN9)
    (k_dflt (refine' cut_stmt (Str.ofString "pattern_index") (fun tk => .int (if negOf x i = true then i + 1 else i) tk) lF9 lN9 ?_ ?_))
    have kCut := cutMark
    rotate_left
    intro t9 h9 tk9 F9 N9
    (try dsimp only [setM] at F9)
    (try k_fold)
    rotate_left)
  k_with "exec While Constant cons nil" => (
    (rename Fr _ _ _ _ => lF'); (rename News _ _ _ _ => lN')
    (with_unfolding_all refine' ksw_while (σ := Int × Tok × Int × Tok) (fun _ => news) (fun c => [(Str.ofString "pattern_index", .int c.1 c.2.1), (Str.ofString "ok", .int c.2.2.1 c.2.2.2)]) (fun _ => True) [Str.ofString "c", Str.ofString "c2"] (fun c => rmI x i t c.1 c.2.2.1) (fun c => (x.length - c.1).toNat) (⟨_, _, _, _⟩) lF' ?kn ?kf ?kk ?kp ?_)
    (case kn => exact lN')
    (case kf => exact trivial)
    (case kk => kst_all)
    (case kp => exact rmI.start (by omega) (by omega) (by omega) (by first | rfl | simp [negOf, *]))
    clear lF' lN'
    rintro ⟨kpi, ktp, kok, kto⟩ kU kH kTk kFacts kInv kFr kNews
    have kMark := kstMark
    dsimp only [kstB] at kFr
    dsimp only at kInv kNews
    have kBnd := kInv.1
    all_goals (try k_fold))
  dsimp only [CbClaim, CbLists, CbRet]
  intros; rename_i hret
  refine wpAny_call ?_
  k_dflt cell_enter
  k_steps
  all_goals refine' cb_retI hret ?_ (by k_asm) (by k_asm)
  all_goals first
    | ((with_reducible rename rmI _ _ _ _ _ => kI9); refine rmI.fin kI9 ?_; intro n9; simp [rmL, rmT, negOf, *]; done)
    | ((with_reducible rename rmI _ _ _ _ _ => kI9); refine rmI.fin kI9 ?_; intro n9; (with_reducible rename _ ≠ ite _ _ _ => h8); revert h8; simp +contextual [rmL, rmT, negOf, *]; done)
    | (simp [rmF, *]; done)

end Mine
namespace Mine
theorem km_tells (w : World) (mean : ExcName → Option Value) (mg mb : Str → Option Value) (news : List (Addr × Obj)) (x y : Str) (tx ty : Tok) :
    CbClaim PySem.Challenge.rw_jl0002_02.row.prog w (hd01.heap_39 w.params) hd01.view_39 (looseW hd01.view_39 []) mean mg mb 21 news [] (x.length ≤ 1000 ∧ y.length ≤ 1000) [.str x tx, .str y ty] (fun _ => .bool (kmF x y)) := by
  k_with_none
  k_fill
  dsimp only [CbClaim, CbLists, CbRet]
  intros; rename_i hret
  refine wpAny_call ?_
  k_dflt cell_enter
  k_steps
  all_goals refine' cb_retB hret ?_ (by k_asm) (by k_asm)
  all_goals first | (simp [kmF, *]; done)
theorem kg_tells (w : World) (mean : ExcName → Option Value) (mg mb : Str → Option Value) (news : List (Addr × Obj)) (x y : Str) (tx ty : Tok) :
    CbClaim PySem.Challenge.rw_jl0002_02.row.prog w (hd01.heap_39 w.params) hd01.view_39 (looseW hd01.view_39 []) mean mg mb 28 news [] (x.length ≤ 1000 ∧ y.length ≤ 1000) [.str x tx, .str y ty] (fun t => .str (kgF x y) t) := by
  k_with_none
  k_fill
  dsimp only [CbClaim, CbLists, CbRet]
  intros; rename_i hret
  refine wpAny_call ?_
  k_dflt cell_enter
  k_steps
  all_goals refine' cb_retS hret ?_ (by k_asm) (by k_asm)
  all_goals first | (simp [kgF, *]; done)
end Mine
namespace Mine
local macro_rules | `(tactic| walk_at "execs cons") => `(tactic| (k_here; (with_reducible refine gen_toks (fun tk => ?_)); (with_reducible refine wpAny_execs_cons ?_); try dsimp only))
local macro_rules | `(tactic| walk_at "exec While Compare cons nil") => `(tactic| (k_extra "exec While Compare cons nil"))
theorem lm_while {prog : Program} {w : World} {A : Around} {E : Value → Shared → Prop} {Q : Flow → Shared → Prop} {s : Shared} {env : Env} {h₀ : Heap} {L : Addr} {test : PySem.Expr} {body : List Stmt} {pos : Pos} {m₀ : Str → Option Value} {D : Addr} {n₀ : Nat} {news : List (Addr × Obj)} {x : Str} {i p : Int} {tp : Tok}
    (F : Fr h₀ L s.heap m₀) (N : News h₀ L s.heap ((D, listOf #[] n₀) :: news)) (hk : ∀ q ∈ [(Str.ofString "at", Value.int p tp)], m₀ q.1 = some q.2) (hp : mkI x i p [] [])
    (turn : ∀ (c : Int × Tok × List Value × Nat × List (Addr × Obj)) (u : Str → Option Value) h tk, OwnOff c.2.2.2.2 (D :: news.map (·.1)) → mkI x i c.1 c.2.2.1 c.2.2.2.2 → Fr h₀ L h (kstB (fun z => if [].contains z then u z else m₀ z) [(Str.ofString "at", .int c.1 c.2.1)]) → News h₀ L h ((D, listOf c.2.2.1.toArray c.2.2.2.1) :: (c.2.2.2.2 ++ news)) →
      wpAny (model prog w) A (isTrue test env (eval test env)) (fun b s₂ =>
        if b = true then wpAny (model prog w) A (execs body env) (KswPost h₀ L s (fun c => (D, listOf c.2.2.1.toArray c.2.2.2.1) :: (c.2.2.2.2 ++ news)) (fun c => [(Str.ofString "at", .int c.1 c.2.1)]) (fun c => OwnOff c.2.2.2.2 (D :: news.map (·.1))) [] m₀ (fun c : Int × Tok × List Value × Nat × List (Addr × Obj) => mkI x i c.1 c.2.2.1 c.2.2.2.2) (fun c => (x.length - c.1).toNat) Q c) E s₂ else Q .next s₂) E { s with heap := h, toks := tk })
    (hE : PassesOwn (model prog w) A env E := by passes_own) :
    wpAny (model prog w) A (exec (.While test body [] pos) env) Q E s :=
  ksw_while (fun c : Int × Tok × List Value × Nat × List (Addr × Obj) => (D, listOf c.2.2.1.toArray c.2.2.2.1) :: (c.2.2.2.2 ++ news)) (fun c => [(Str.ofString "at", .int c.1 c.2.1)]) (fun c => OwnOff c.2.2.2.2 (D :: news.map (·.1))) [] (fun c => mkI x i c.1 c.2.2.1 c.2.2.2.2) (fun c => (x.length - c.1).toNat) (p, tp, [], n₀, []) F N (fun _ h => nomatch h) hk hp turn hE
local macro_rules | `(tactic| walk_at "call builtin:list.append") => `(tactic| (
  k_here
  (k_dflt (refine' append_K ?k1 ?k2 ?k3 ?_ ?z))
  (case k1 => k_asm)
  (case k2 => k_asm)
  (case k3 => (refine' Upd.tail ?a (Upd.head ?b); (case a => k_ne); (case b => k_all)))
  (case z => ((with_reducible rename mkI _ _ _ _ _ => hI9); have h9 := mkI.size hI9; rw [List.size_toArray, PySem.sizeLine_eq]; omega))
  intro h' F' N'))
local macro_rules | `(tactic| walk_at "KswEnd") => `(tactic| (
  (with_reducible rename mkI _ _ _ _ _ => kI9)
  (with_reducible rename Fr _ _ _ _ => lF9)
  (with_reducible rename News _ _ _ _ => lN9)
  (with_reducible rename OwnOff _ _ => kO9)
  (with_reducible rename _ ∧ AllLt _ _ => kL9)
  k_dflt (refine' ksw_end (⟨_, _, _, _, _⟩ : Int × Tok × List Value × Nat × List (Addr × Obj)) lF9 lN9 (fun p hp => mk_led p hp) (mk_off kO9 kL9.1 kL9.2) ?e2 ?e3 ?e4 ?e5)
  (case e2 => kst_all)
  (case e3 => k_dflt ksw_same)
  (case e4 => (dsimp only; refine mkI.step (_, _, _) kI9 (by omega) ?b1 ?b2 (DatIn.tuple (.head _) (.cons (.str _ _) (.cons (.bool _) (.cons (.int _ _) .nil)))) (fun _ h => .tail _ h); (case b1 => (omega)); (case b2 => (first | exact mkL_esc (by assumption) (by assumption) | exact mkL_one (by assumption) (by assumption)))))
  (case e5 => (dsimp only; omega))))
def LmRet (h₀ : Heap) (L : Addr) (m : Str → Option Value) (news : List (Addr × Obj)) (s : Shared) (Q : Value → Shared → Prop) (ms : List Mark) : Prop :=
  ∀ (D : Addr) (us : List Value) (n : Nat) (tl : List (Addr × Obj)) (h' : Heap) (tk' : Nat), Fr h₀ L h' m → News h₀ L h' ((D, listOf us.toArray n) :: (tl ++ news)) → DatAll tl us (ms.map Mark.dat) → OwnOff tl (D :: news.map (·.1)) → (∀ q ∈ news, q.1 < D) → Q (.ref D) { s with heap := h', toks := tk' }
theorem lm_tells {w : World} {mean : ExcName → Option Value} {mg mb : Str → Option Value} {news : List (Addr × Obj)} {x : Str} {i : Int} {tx ti : Tok} 
    {dp un : Nat} {gd : Option (List Code)} {cn : Str} {cs : Scope} {a : Addr} {ccd : Value} {cl : List (Str × Addr)} {outer : List Env} {A₀ : Around} {base h₀ : Heap} {L : Addr} {m : Str → Option Value} {s : Shared} {Q E : Value → Shared → Prop} :
    Below A₀ base outer h₀ → Fr h₀ L s.heap m → (hd01.heap_39 w.params).In h₀ → News h₀ L s.heap news → Top hd01.view_39 (looseW hd01.view_39 []) mean mg mb h₀ → cs.kind = .function →
    (x.length ≤ 1000 ∧ 0 ≤ i ∧ i ≤ x.length) → dp + 1 < recursionLimit → un + 8 < cLine → LmRet h₀ L m news s Q (mkF x i) →
      wpAny (model PySem.Challenge.rw_jl0002_02.row.prog w) (ktrTop dp un gd cn cs L a ccd cl outer) (call (.ref 42) [.str x tx, .int i ti]) Q E s := by
  k_with_none
  k_fill
  k_with "exec While Compare cons nil" => (
    (rename Fr _ _ _ _ => lF'); (rename News _ _ _ _ => lN')
    (k_dflt (refine' lm_while (x := x) (i := i) lF' lN' ?kk ?kp ?_))
    (case kk => kst_all)
    (case kp => exact mkI.start (by omega))
    clear lF' lN'
    rintro ⟨kpi, ktp, kus, kn, ktl⟩ kU kH kTk kFacts kInv kFr kNews
    have kMark := kstMark
    have kMark2 := kdMark
    dsimp only [kstB] at kFr
    dsimp only at kInv kNews kFacts
    have kBnd := kInv.1
    all_goals (try k_fold))
  intros; rename_i hret
  refine wpAny_call ?_
  k_dflt cell_enter
  k_steps
  all_goals ((with_reducible rename mkI _ _ _ _ _ => kI9); (with_reducible rename Fr h₀ _ _ _ => lF9); (with_reducible rename News h₀ _ _ _ => lN9); (with_reducible rename ¬ _ => lE9); exact hret _ _ _ _ _ _ lF9 lN9 (mkI.fin kI9 lE9) (by assumption) (by assumption))
end Mine
namespace Mine
local macro_rules | `(tactic| walk_at "execs cons") => `(tactic| (k_here; (with_reducible refine gen_toks (fun tk => ?_)); (with_reducible refine wpAny_execs_cons ?_); try dsimp only))
local macro_rules | `(tactic| walk_at "call ref") => `(tactic| (
  k_here
  (k_dflt (refine' lm_tells ?k1 ?k2 ?k3 ?k4 ?k5 ?kK ?kp ?kd ?ku ?_))
  k_dflt (case k1 => k_asm)
  k_dflt (case k2 => k_asm)
  k_dflt (case k3 => k_asm)
  k_dflt (case k4 => k_asm)
  k_dflt (case k5 => k_asm)
  k_dflt (case kK => first | exact rfl | assumption)
  k_dflt (case kd => ktr_room)
  k_dflt (case ku => ktr_units)
  (case kp => (first | omega | decide | fail "pre"))
  (rename ∀ (p : Addr × Obj), p ∈ _ → @LT.lt Nat _ p.1 _ => l1)
  (intro D9 us9 n9 tl9 h9 tk9 F9 N9 A9 O9 lt9)
  (obtain ⟨rest, ms, Nr, Ar, hms, hml, hok, Or, lr, hsub⟩ := lm_rest N9 A9 (by omega) (by omega) (by assumption) O9 lt9 (fun q hq => Nat.lt_succ_of_lt (l1 q hq)))
  clear N9 A9 O9 lt9
  have kMark2 := kdMark
  have kMark2 := kdMark
  (try dsimp only)
  (try k_fold)))
local macro_rules | `(tactic| walk_at "subscriptTail") => `(tactic| (
  k_here
  (with_reducible show wpAny _ _ (subscriptTail _ _ (Value.ref _) (Value.int _ _)) _ _ _)
  (with_reducible rename DatAll _ _ _ => hA9)
  (with_reducible rename ∀ m ∈ _, PyData.strOk _ = true => hOk9)
  (with_unfolding_all refine' mk_item ?k1 ?k2 hA9 ?k4 ?k5 ?k6 hOk9 ?_ ?k7)
  (case k1 => k_asm)
  (k_dflt (case k2 => k_memK))
  (case k4 => kd_idx)
  (case k5 => kd_idx)
  (case k6 => omega)
  (case k7 => with_unfolding_all rfl)
  intro a9 t9 u9 n9 hs9 hm9))
local macro_rules | `(tactic| walk_at "subscriptTail") => `(tactic| (
  k_here
  (with_reducible show wpAny _ _ (subscriptTail _ (Expr.Slice _ _ none _) (Value.ref _) (Value.ref _)) _ _ _)
  (with_reducible rename (_, ({ cls := Value.type "tuple", data := _ } : Obj)) ∈ _ => hT9)
  (with_unfolding_all refine' slice_two ?F ?N (News.isTup (by k_asm) (kd_use hT9 (by kd_subs))) ?_ ?s ?g)
  (case F => k_asm)
  (case N => k_asm)
  (case s => with_unfolding_all rfl)
  (case g => (intro _; with_unfolding_all rfl))
  intro D9 h9 F9 N9 l9
  (try k_lt l9)))
local macro_rules | `(tactic| walk_at "compareOp Eq ref ref") => `(tactic| (
  k_here
  (with_reducible rename News _ _ _ _ => lN9)
  (k_dflt (refine' eq_two lN9 (by k_mem) (by k_mem) ?x ?y ?u ?_))
  (case x => first | assumption | decide +kernel)
  (case y => first | assumption | decide +kernel)
  (case u => (simp only [units_in1, units_deeper, Around.mark_units, units_caller, ktrTop]; omega))))
local macro_rules | `(tactic| walk_at "KswEnd") => `(tactic| (
  (with_reducible rename lcI _ _ _ _ _ _ => kI9)
  (with_reducible rename Fr _ _ _ _ => lF9)
  (with_reducible rename News _ _ _ _ => lN9)
  k_dflt (refine' ksw_end (⟨_, _, _⟩ : Bool × Int × Tok) lF9 lN9 ?e1 trivial ?e2 ?e3 ?e4 ?e5)
  (case e1 => kst_inAny)
  (case e2 => kst_all)
  (case e3 => k_dflt ksw_same)
  (case e4 => (dsimp only [rhsOf]; refine lcI.step kI9 (by assumption) (by omega) ?b3; (case b3 => (first | exact lc_rng (by with_reducible assumption) (by with_reducible assumption) (by with_reducible assumption) (by with_reducible assumption) (by with_reducible assumption) (by with_reducible assumption) (by with_reducible assumption) (by (first | exact fd1 (by with_reducible assumption) | exact fd2 (by with_reducible assumption) (by with_reducible assumption) | exact fd3 (by with_reducible assumption) (by with_reducible assumption))) | exact lc_one (by with_reducible assumption) (by with_reducible assumption) (by (first | exact nd1 (by with_reducible assumption) | exact nd2 (by with_reducible assumption) | exact nd3 (by with_reducible assumption))) (by with_reducible assumption) (by (first | exact fd1 (by with_reducible assumption) | exact fd2 (by with_reducible assumption) (by with_reducible assumption) | exact fd3 (by with_reducible assumption) (by with_reducible assumption)))))))
  (case e5 => (dsimp only; omega))))
local macro_rules | `(tactic| walk_at "CompEnd") => `(tactic| (
  (with_reducible rename Fr _ _ _ _ => lF9)
  (with_reducible rename News _ _ _ _ => lN9)
  k_dflt (first
    | refine' LCg.CompEnd.intro lF9 lN9 _ ?sub ?off trivial (kci_el (endG_yes (by with_reducible assumption)) rfl rfl)
    | refine' LCg.CompEnd.intro lF9 lN9 _ ?sub ?off trivial (kci_no (endG_no (by with_reducible assumption)) rfl))
  (case off => (simp only [LCg.Off3]; assumption))
  (case sub => exact fun p hp => List.mem_cons_of_mem _ (List.mem_cons_of_mem _ hp))))
local macro_rules | `(tactic| walk_at "CompSrcT") => `(tactic| (
  k_here
  (with_reducible rename mkF _ _ = _ => hms9)
  (k_dflt (refine LCt.CompSrcT.range (by rfl) (by k_asm) (by k_asm) (by assumption) (by exact small_one (by omega) (by omega) (by omega) (by omega)) (by exact rangeSize_nat _ _) (by rw [PySem.sizeLine_eq]; omega) ?_))
  intro g9
  (k_dflt (refine' kci_range (endG (rhsOf hms9)) ?turn ?fin ?grow))
  all_goals (dsimp only [rhsOf])
  (case grow => exact endG_grows _)
  (case' turn => (intro k' t' I' oI' C' oC' D' m' ys' l' h' tk' E' hlo' hhi' hI' hC' hx' F' N' off' ne' hMark'; simp only [LCg.Off3, and_true] at off'))))
local macro_rules | `(tactic| walk_at "exec While Compare cons nil") => `(tactic| (k_extra "exec While Compare cons nil"))
theorem lc_tells {w : World} {mean : ExcName → Option Value} {mg mb : Str → Option Value} {news : List (Addr × Obj)} {x : Str} {i : Int} {t : Str} {tx ti tt : Tok}
    {dp un : Nat} {gd : Option (List Code)} {cn : Str} {cs : Scope} {a : Addr} {ccd : Value} {cl : List (Str × Addr)} {outer : List Env} {A₀ : Around} {base h₀ : Heap} {L : Addr} {m : Str → Option Value} {s : Shared} {Q E : Value → Shared → Prop} :
    Below A₀ base outer h₀ → Fr h₀ L s.heap m → (hd01.heap_39 w.params).In h₀ → News h₀ L s.heap news → Top hd01.view_39 (looseW hd01.view_39 []) mean mg mb h₀ → cs.kind = .function →
    (x.length ≤ 1000 ∧ 0 ≤ i ∧ i ≤ x.length) → PyData.strOk x = true → dp + 9 < recursionLimit → un + 99 < cLine → CbRet h₀ L m news s Q (fun tk => .int (lcF x i t) tk) →
      wpAny (model PySem.Challenge.rw_jl0002_02.row.prog w) (ktrTop dp un gd cn cs L a ccd cl outer) (call (.ref 47) [.str x tx, .int i ti, .str t tt]) Q E s := by
  k_with_none
  k_fill
  k_with "exec While Compare cons nil" => (
    (with_reducible rename Fr _ _ _ _ => lF9); (with_reducible rename News _ _ _ _ => lN9)
    (with_reducible rename mkF _ _ = _ => hms9)
    (k_dflt (refine' while_fix (σ := Bool × Int × Tok) (fun c => [(Str.ofString "found", .bool c.1), (Str.ofString "k", .int c.2.1 c.2.2)]) [Str.ofString "low", Str.ofString "high"] (fun c => lcI x i t (rhsOf hms9) c.2.1 c.1) (fun c => (1001 - c.2.1).toNat) (⟨false, 0, _⟩) lF9 lN9 ?kk ?kp ?_))
    (case kk => kst_all)
    (case kp => exact lcI.start (by assumption) hms9)
    rintro ⟨kfd, kk, ktk⟩ kU kH kTk kInv kFr kNews
    have kMark := kstMark
    have kMark2 := kdMark
    dsimp only [kstB] at kFr
    dsimp only [rhsOf] at kInv
    have kBnd := kInv.1
    all_goals (try k_fold))
  intros; rename_i hret
  refine wpAny_call ?_
  k_dflt (refine' code_defC ?k1 ?k2 ?k3 ?k4 ?k5 ?kA ?kF ?kK ?k6 ?k7 ?k8 ?k9 ?kB ?kD ?_ ?c2 ?c3 ?c4; (case kA => exact rfl); (case kF => exact rfl); (case kK => assumption); (case k1 => k_asm); (case k2 => k_asm); (case k3 => k_asm); (case k4 => k_asm); (case k5 => k_asm); (case k6 => k_is); (case k7 => k_is); (case k8 => ktr_room); (case k9 => exact BindsTo.of_eq rfl); (case kB => exact rfl); (case kD => decide +kernel); (case c2 => exact rfl); (case c3 => exact rfl); (case c4 => exact rfl); k_whole; intro g' L' h' tk' cells' FG' F' N' Y' B' X' T' l1; (try k_lt l1); k_cells Y'; (try simp only [List.cons_append, List.nil_append] at N'); (try dsimp only); (try k_lift B'); (try k_fold))
  k_steps
  all_goals (with_reducible rename News h₀ _ _ _ => lN9)
  all_goals refine' cb_retI hret ?_ (by k_asm) (fun p hp => lN9 p ?_)
  all_goals first
    | exact hp
    | exact List.mem_cons_of_mem _ hp
    | ((with_reducible rename ∀ p ∈ news, p ∈ _ => hS9); have hp9 := hS9 p hp; repeat (first | exact hp9 | refine List.mem_cons_of_mem _ ?_))
    | ((with_reducible rename lcI _ _ _ _ _ _ => kI9); exact lcI.fin kI9 (lc_end (by with_reducible assumption) (by with_reducible assumption)))
    | ((with_reducible rename lcI _ _ _ _ _ _ => kI9); exact lcI.fin kI9 (lc_out (by with_reducible assumption)))
    | ((with_reducible rename lcI _ _ _ _ _ _ => kI9); exact lcI.fin kI9 (lc_one_no (by with_reducible assumption) (by with_reducible assumption) (by (first | exact nd1 (by with_reducible assumption) | exact nd2 (by with_reducible assumption) | exact nd3 (by with_reducible assumption))) (by with_reducible assumption)))
    | ((with_reducible rename lcI _ _ _ _ _ _ => kI9); exact lcI.fin kI9 (lc_rng_no (by with_reducible assumption) (by with_reducible assumption) (by with_reducible assumption) (by with_reducible assumption) (by with_reducible assumption) (.inl (by with_reducible assumption))))
    | ((with_reducible rename lcI _ _ _ _ _ _ => kI9); exact lcI.fin kI9 (lc_rng_no (by with_reducible assumption) (by with_reducible assumption) (by with_reducible assumption) (by with_reducible assumption) (by with_reducible assumption) (.inr (by with_reducible assumption))))
    | (rw [lcF, if_pos (by with_reducible assumption)])


end Mine
namespace Mine
def p3 : Nat → Int
  | 0 => 1
  | n + 1 => 3 * p3 n
theorem p3_pos : ∀ n, 0 < p3 n
  | 0 => by decide
  | n + 1 => by have := p3_pos n; simp only [p3]; omega
theorem p3_eq : ∀ n, (3 : Int) ^ n = p3 n
  | 0 => rfl
  | n + 1 => by rw [Int.pow_succ, p3_eq n, p3, Int.mul_comm]
theorem pow3 {prog : Program} {w : World} {A : Around} {E : Value → Shared → Prop} {s : Shared} {k : Int} {t u : Tok} {Q : Value → Shared → Prop} (h0 : 0 ≤ k) (h1 : k ≤ 1000000)
    (H : 0 < p3 k.toNat → Q (.int (p3 k.toNat) s.toks) { s with toks := s.toks + 1 }) : wpAny (model prog w) A (binaryOp .Pow (.int 3 t) (.int k u)) Q E s :=
  pow_int_small h0 h1 (by decide) (by rw [p3_eq]; exact H (p3_pos _))
theorem pow_le {k r : Int} (h1 : k < 0 + ((r - 0).toNat : Int)) (h : r < 9) : k ≤ 1000000 := by omega
theorem p3_ne (n : Nat) : p3 n ≠ 0 := by have := p3_pos n; omega
theorem small9 {r : Int} (h0 : 0 ≤ r) (h1 : r < 9) : Builtin.Range.small 0 r 1 = true := small_one (by omega) (by omega) (by omega) (by omega)
theorem size9 {r : Int} (h1 : r < 9) : (r - 0).toNat ≤ sizeLine := by rw [PySem.sizeLine_eq]; omega
theorem jsize9 {r : Int} (h : r < 9) : (rangeKs 0 (r - 0).toNat).length ≤ 1048576 := by rw [rangeKs_length]; omega
theorem mod_gen {prog : Program} {w : World} {A : Around} {E : Value → Shared → Prop} {s : Shared} {a b : Int} {t u : Tok} {Q : Value → Shared → Prop} (hb : 0 < b)
    (H : ∀ r, 0 ≤ r → r < b → Q (.int r s.toks) { s with toks := s.toks + 1 }) : wpAny (model prog w) A (binaryOp .Mod (.int a t) (.int b u)) Q E s :=
  mod_int' (by omega) (H _ (Int.fmod_nonneg_of_pos _ hb) (Int.fmod_lt_of_pos _ hb))
theorem fr_off {h₀ h : Heap} {L : Addr} {m m₀ : Str → Option Value} (names : List Str) (hm : ∀ z, names.contains z = false → m z = m₀ z) (F : Fr h₀ L h m) : Fr h₀ L h (fun z => if names.contains z then m z else m₀ z) := by
  have e : (fun z => if names.contains z then m z else m₀ z) = m := by
    funext z
    cases h : names.contains z with
    | true => simp
    | false => simp [hm z h]
  rw [e]; exact F
def ItJ (names : List Str) (keep : List (Addr × Obj)) (m₀ : Str → Option Value) (m : Str → Option Value) (nx : List (Addr × Obj)) : Prop := nx = keep ∧ ∀ z, names.contains z = false → m z = m₀ z
theorem ItJ.refl {names : List Str} {keep : List (Addr × Obj)} {m₀ : Str → Option Value} : ItJ names keep m₀ m₀ keep := ⟨rfl, fun _ _ => rfl⟩
def ItJc (names : List Str) (pre : List (Addr × Obj)) (c : Addr) (post : List (Addr × Obj)) (m₀ : Str → Option Value) (m : Str → Option Value) (nx : List (Addr × Obj)) : Prop :=
  (∃ (oc : Obj) (v : Option Value), nx = pre ++ (c, oc) :: post ∧ oc.data = Data.cell v) ∧ ∀ z, names.contains z = false → m z = m₀ z
theorem ItJc.start {names : List Str} {pre : List (Addr × Obj)} {c : Addr} {post : List (Addr × Obj)} {m₀ : Str → Option Value} {oc : Obj} (h : ∃ v, oc.data = Data.cell v) : ItJc names pre c post m₀ m₀ (pre ++ (c, oc) :: post) := ⟨⟨oc, h.choose, rfl, h.choose_spec⟩, fun _ _ => rfl⟩
theorem ints_mem {vs : List Value} {ns : List Int} {v : Value} (h : IntsAre vs ns) (hv : v ∈ vs) : ∃ n t, v = .int n t := by
  induction h with
  | nil => cases hv
  | cons n t _ ih =>
    rcases List.mem_cons.mp hv with rfl | hv
    · exact ⟨_, _, rfl⟩
    · exact ih hv
inductive CutInt (h₀ : Heap) (L : Addr) (m : Str → Option Value) (news : List (Addr × Obj)) (s : Shared) : Value → Shared → Prop
  | intro {i : Int} {t : Tok} {h : Heap} {tk : Nat} : Fr h₀ L h m → News h₀ L h news → CutInt h₀ L m news s (.int i t) { s with heap := h, toks := tk }
theorem cut_int {M : Model} {A : Around} {E : Value → Shared → Prop} {Q : Value → Shared → Prop} {s : Shared} {t : Sem Value} {h₀ : Heap} {L : Addr} {m : Str → Option Value} {news : List (Addr × Obj)} (_F : Fr h₀ L s.heap m) (_N : News h₀ L s.heap news)
    (h1 : wpAny M A t (CutInt h₀ L m news s) E s) (h2 : ∀ i t h tk, Fr h₀ L h m → News h₀ L h news → Q (.int i t) { s with heap := h, toks := tk }) : wpAny M A t Q E s :=
  wpAny_mono h1 (fun v s' h => by cases h with | intro F N => exact h2 _ _ _ _ F N) fun _ _ x => x
theorem ok_append {a b : Str} (ha : PyData.strOk a = true) (hb : PyData.strOk b = true) : PyData.strOk (a ++ b) = true := by
  unfold PyData.strOk at ha hb ⊢
  rw [Str.cps_append, Array.all_append, ha, hb]; rfl
theorem ok_join : ∀ l : List Str, (∀ y ∈ l, PyData.strOk y = true) → PyData.strOk (Str.join (Str.ofString "") l) = true
  | [], _ => by decide +kernel
  | [x], h => h x (.head _)
  | x :: y :: r, h => by
    rw [Str.join]
    · exact ok_append (ok_append (h x (.head _)) (by decide +kernel)) (ok_join (y :: r) fun z hz => h z (.tail _ hz))
    · simp
theorem ok_signs : PyData.strOk (Str.ofString "abcd-]!^\\") = true := by decide +kernel
theorem ok_ab : PyData.strOk (Str.ofString "ab/") = true := by decide +kernel
def txtG (l : Str) (k : Int) : Str := Txt.item l (k.fmod 9)
def keyG (l : Str) (z k : Int) : Str := Txt.item l ((z.fdiv (p3 k.toNat)).fmod 3)
theorem txtG_ok (k : Int) : (txtG (Str.ofString "abcd-]!^\\") k).length = 1 ∧ PyData.strOk (txtG (Str.ofString "abcd-]!^\\") k) = true := ⟨rfl, ok_item ok_signs _⟩
theorem keyG_ok (z k : Int) : (keyG (Str.ofString "ab/") z k).length = 1 ∧ PyData.strOk (keyG (Str.ofString "ab/") z k) = true := ⟨rfl, ok_item ok_ab _⟩
theorem txtG_eq (l : Str) (k : Int) : txtG l k = Txt.item l (k.fmod 9) := rfl
theorem keyG_eq (l : Str) (z k : Int) : keyG l z k = Txt.item l ((z.fdiv (p3 k.toNat)).fmod 3) := rfl
theorem join_len {prog : Program} {w : World} {A : Around} {E : Value → Shared → Prop} {s : Shared} {D : Addr} {ys : List Value} {l : List Int} {g : Int → Str} {t : Tok} {Q : Value → Shared → Prop}
    (hl : s.heap.IsList D ys.toArray) (hc : CarriedAll ys (l.map fun a => PyData.str (g a))) (h1 : ∀ a ∈ l, (g a).length = 1 ∧ PyData.strOk (g a) = true) (hn : l.length ≤ 1048576)
    (h : ∀ (x : Str) t' k, x.length = l.length → PyData.strOk x = true → Q (.str x t') { s with toks := k }) : wpAny (model prog w) A (call (.builtin "str.join") [.str (Str.ofString "") t, .ref D]) Q E s :=
  KT.join_1 hl hc (fun a ha => (h1 a ha).1) hn (fun t' k e => h _ t' k e (by
    unfold Txt.join
    rw [StrLaws.glued_eq_join]
    refine ok_join _ fun y hy => ?_
    obtain ⟨a, ha, rfl⟩ := List.mem_map.mp hy
    exact (h1 a ha).2))
local macro_rules | `(tactic| walk_at "execs cons") => `(tactic| (k_here; (with_reducible refine gen_toks (fun tk => ?_)); (with_reducible refine wpAny_execs_cons ?_); try dsimp only))
local macro_rules | `(tactic| walk_at "CompSrc") => `(tactic| (
  k_here
  (with_reducible show @LCg.CompSrc _ _ _ _ _ _ _ (PySem.Expr.Subscript _ _ _) _ _ _ _ _ _)
  k_extra "CompSrc"))
theorem ce_text {h₀ : Heap} {L I C D : Addr} {m : Str → Option Value} {s₁ : Shared} {oI oC oD : Obj} {S : List (Addr × Obj) → Prop} {news : List (Addr × Obj)} {r x : Str} {t : Tok} {h' : Heap} {tk : Nat}
    (F : Fr h₀ L h' m) (N : News h₀ L h' ((I, oI) :: (C, oC) :: (D, oD) :: news)) (off : LCg.Off3 I C D news) (hS : S news) (e : r = x) :
    LCg.CompEnd h₀ L m s₁ I oI C oC D oD S (fun y news' => KCtEl news r y news') (.str x t) { s₁ with heap := h', toks := tk } :=
  LCg.CompEnd.intro F N news (fun _ hp => hp) off hS (kct_el e rfl rfl)
local macro_rules | `(tactic| walk_at "CompEnd") => `(tactic| (
  (with_reducible rename Fr _ _ _ _ => lF9)
  (with_reducible rename News _ _ _ _ => lN9)
  (k_dflt (refine' ce_text lF9 lN9 ?off ?src ?e))
  (case e => first | with_reducible exact txtG_eq _ _ | with_reducible exact keyG_eq _ _ _)
  (case off => (simp only [LCg.Off3, and_true]; assumption))
  (case src => first | exact True.intro | lcg_src | assumption)))
local macro_rules | `(tactic| walk_at "binaryOp FloorDiv int int") => `(tactic| (
  k_here
  (with_reducible show wpAny _ _ (binaryOp Operator.FloorDiv (Value.int _ _) (Value.int (p3 _) _)) _ _ _)
  (k_dflt (refine floordiv_int (p3_ne _) ?_))))
theorem join_key {prog : Program} {w : World} {A : Around} {E : Value → Shared → Prop} {s : Shared} {D : Addr} {ys : List Value} {r z : Int} {t : Tok} {Q : Value → Shared → Prop}
    (hl : s.heap.IsList D ys.toArray) (hc : CarriedAll ys ((rangeKs 0 (r - 0).toNat).map fun a => PyData.str (keyG (Str.ofString "ab/") z a))) (hr : r < 9)
    (h : ∀ (x : Str) t' k, x.length ≤ 8 → Q (.str x t') { s with toks := k }) : wpAny (model prog w) A (call (.builtin "str.join") [.str (Str.ofString "") t, .ref D]) Q E s :=
  join_len hl hc (fun a _ => keyG_ok z a) (jsize9 hr) (fun x t' k e _ => h x t' k (by rw [e, rangeKs_length]; omega))
local macro_rules | `(tactic| walk_at "call builtin:str.join") => `(tactic| (k_here; (with_reducible show wpAny _ _ (call (Value.builtin "str.join") [Value.str _ _, Value.ref _]) _ _ _); (with_reducible rename CarriedAll _ (List.map _ _) => ktC); (refine join_len (by first | assumption | is_list | exact News.isList (by k_asm) (by k_mem)) ktC (by intro ktA ktM; first | with_reducible exact txtG_ok _ | with_reducible exact keyG_ok _ _) (by first | exact jsize9 (by with_reducible assumption) | omega | kt_fact) ?_; clear ktC; intro xJ _ _ ktE ktO)))
local macro_rules | `(tactic| walk_at "call builtin:str.join") => `(tactic| (
  k_here
  (with_reducible show wpAny _ _ (call (Value.builtin "str.join") [Value.str _ _, Value.ref _]) _ _ _)
  (with_reducible rename CarriedAll _ (List.map _ (rangeKs _ _)) => ktC)
  k_dflt (refine join_key (by first | assumption | is_list | exact News.isList (by k_asm) (by k_mem)) ktC (by with_reducible assumption) ?_)
  clear ktC
  intro xK _ _ ktE))
local macro_rules | `(tactic| walk_at "subscriptTail") => `(tactic| (
  k_here
  (with_reducible show wpAny _ _ (subscriptTail (PySem.Expr.List _ _) _ (Value.ref _) (Value.int _ _)) _ _ _)
  (with_reducible rename _ < (5 : Int) => h59)
  (k_dflt (refine' menu5 ?hl ?hw ?h0 h59 ?hm ?_ ?hs))
  (k_dflt (case hl => exact News.isList (by k_asm) (by k_mem)))
  (case hw => repeat constructor)
  (case h0 => with_reducible assumption)
  (case hm => decide +kernel)
  (case hs => with_unfolding_all rfl)
  intro mo _ hmo))
local macro_rules | `(tactic| walk_at "binaryOp Add str str") => `(tactic| (
  k_here
  (with_reducible show wpAny _ _ (binaryOp Operator.Add (Value.str (Txt.slice _ _ _) _) (Value.str _ _)) _ _ _)
  (k_dflt (refine' add_gen ?hx ?hy ?_))
  (case hx => first | exact slice_le8 (by with_reducible assumption) | exact slice_le8 (slice_le8 (by with_reducible assumption)))
  (case hy => with_reducible assumption)
  intro pat _ _ hpat))
local macro_rules | `(tactic| walk_at "call builtin:str.split") => `(tactic| (
  k_here
  (k_dflt (refine' split_head ?hF ?hN ?hx ?_))
  (k_dflt (case hF => k_asm))
  (k_dflt (case hN => k_asm))
  (case hx => with_reducible assumption)
  intro D9 l9 b9 tb9 r9 h9 k9 hb9 hbl9 F9 N9 lt9
  (try k_lt lt9)))
local macro_rules | `(tactic| walk_at "subscriptTail") => `(tactic| (
  k_here
  (with_reducible show wpAny _ _ (subscriptTail _ _ (Value.ref _) (Value.int 0 _)) _ _ _)
  (k_dflt (refine' head_item ?hl ?_ ?hs))
  (k_dflt (case hl => exact News.isList (by k_asm) (by k_mem)))
  (case hs => with_unfolding_all rfl)))
local macro_rules | `(tactic| walk_at "subscriptTail Name Slice str ref") => `(tactic| (
  k_here
  (with_reducible show wpAny _ _ (subscriptTail _ (Expr.Slice _ _ _ _) (Value.str _ _) (Value.ref _)) _ _ _)
  (k_dflt (first | refine' slice_strN_ns_len ?hF ?hN ?_ ?hs ?ht ?hz | refine' slice_strN_sn_len ?hF ?hN ?_ ?hs ?ht ?hz))
  (k_dflt (case hF => k_asm))
  (k_dflt (case hN => k_asm))
  (case hz => first | exact size8 (by with_reducible assumption) | exact size12 (by with_reducible assumption) | exact size8 (slice_le8 (by with_reducible assumption)))
  (case hs => with_unfolding_all rfl)
  (case ht => (intro _; with_unfolding_all rfl))
  intro _ _ _ F9 N9 _))
local macro_rules | `(tactic| walk_at "exec For Name List cons nil") => `(tactic| (k_here; k_dflt (refine wpAny_For ?_)))
local macro_rules | `(tactic| walk_at "exec For Name Name cons nil") => `(tactic| (k_here; k_dflt (refine wpAny_For ?_)))
local macro_rules | `(tactic| walk_at "eval IfExp Compare") => `(tactic| (k_here; (with_reducible rename Fr _ _ _ _ => lF9); (with_reducible rename News _ _ _ _ => lN9); k_dflt (refine cut_int lF9 lN9 ?c1 ?c2); (case' c1 => (with_reducible refine IfExp_ ?_)); (case' c2 => intro i9 t9 h9 tk9 F9 N9)))
local macro_rules | `(tactic| walk_at "CutInt") => `(tactic| ((with_reducible rename Fr _ _ _ _ => lF9); (with_reducible rename News _ _ _ _ => lN9); k_dflt (exact CutInt.intro lF9 lN9)))
local macro_rules | `(tactic| walk_at "ItPost") => `(tactic| (dsimp only [ItPost]))
local macro_rules | `(tactic| walk_at "ItEnd") => `(tactic| ((with_reducible rename Fr _ _ _ _ => lF9); (with_reducible rename News _ _ _ _ => lN9); k_dflt (refine' ⟨_, _, _, _, rfl, lF9, kst_newsOf lN9 ?n1, ⟨rfl, ?n2⟩⟩); (case n1 => kst_inAny); (case n2 => (intro z hz9; (simp only [List.contains_cons, List.contains_nil, Bool.or_false, Bool.or_eq_false_iff, beq_eq_false_iff_ne, ne_eq] at hz9); (simp [hz9]; done)))))
local macro_rules | `(tactic| walk_at "ItEnd") => `(tactic| (
  (with_reducible show ItEnd _ _ _ _ _ (ItJc _ _ _ _ _) _)
  (with_reducible rename Fr _ _ _ _ => lF9); (with_reducible rename News _ _ _ _ => lN9)
  k_dflt (refine' ⟨_, _, _, _, rfl, lF9, kst_newsOf lN9 ?n1, ⟨⟨_, _, rfl, ?n3⟩, ?n2⟩⟩)
  (case n1 => kst_inAny)
  (case n3 => assumption)
  (case n2 => (intro z hz9; (simp only [List.contains_cons, List.contains_nil, Bool.or_false, Bool.or_eq_false_iff, beq_eq_false_iff_ne, ne_eq] at hz9); (simp [hz9]; done)))))
local macro_rules | `(tactic| walk_at "binaryOp Pow int int") => `(tactic| (
  k_here
  (with_reducible refine pow3 ?p1 ?p2 ?_)
  (case p1 => with_reducible assumption)
  (case p2 => exact pow_le (by with_reducible assumption) (by with_reducible assumption))
  intro hp9))
local macro_rules | `(tactic| walk_at "binaryOp Mod int int") => `(tactic| (
  k_here
  (first
    | with_reducible show wpAny _ _ (binaryOp Operator.Mod (Value.int (Int.fdiv _ _) _) (Value.int 9 _)) _ _ _
    | with_reducible show wpAny _ _ (binaryOp Operator.Mod (Value.int (Int.fdiv _ _) _) (Value.int 5 _)) _ _ _
    | with_reducible show wpAny _ _ (binaryOp Operator.Mod (Value.int (Int.fdiv _ _) _) (Value.int 2 _)) _ _ _
    | with_reducible show wpAny _ _ (binaryOp Operator.Mod (Value.int (Int.fdiv _ _) _) (Value.int (_ + 1) _)) _ _ _)
  (with_reducible refine mod_gen ?g1 ?_)
  (case g1 => first | exact len1_pos _ | decide)
  intro r9 hr0 hr9))
local macro_rules | `(tactic| walk_at "call ref") => `(tactic| (
  k_here
  k_dflt (first
    | refine' cb_use (f := 35) (rm_tells _ _ _ _ _ _ _ _ _ _ _) ?k1 ?k2 ?k3 ?k4 ?k5 ?kK ?kp ?kd ?ku ?_
    | refine' cb_use (f := 21) (km_tells _ _ _ _ _ _ _ _ _) ?k1 ?k2 ?k3 ?k4 ?k5 ?kK ?kp ?kd ?ku ?_
    | refine' cb_use (f := 28) (kg_tells _ _ _ _ _ _ _ _ _) ?k1 ?k2 ?k3 ?k4 ?k5 ?kK ?kp ?kd ?ku ?_)
  k_dflt (case k1 => k_asm)
  k_dflt (case k2 => k_asm)
  k_dflt (case k3 => k_asm)
  k_dflt (case k4 => k_asm)
  k_dflt (case k5 => k_asm)
  k_dflt (case kK => first | exact rfl | assumption)
  k_dflt (case kd => ktr_room)
  k_dflt (case ku => ktr_units)
  (case kp => (first | exact ⟨le8 (by with_reducible assumption), le12 (by with_reducible assumption)⟩ | exact ⟨by decide +kernel, by decide +kernel⟩ | omega | fail "pre"))
  (intro t9 h9 tk9 F9 N9); (try dsimp only); (try k_fold)))
local macro_rules | `(tactic| walk_at "call ref") => `(tactic| (
  k_here
  k_dflt (refine' lc_tells ?k1 ?k2 ?k3 ?k4 ?k5 ?kK ?kp ?ks ?kd ?ku ?_)
  k_dflt (case k1 => k_asm)
  k_dflt (case k2 => k_asm)
  k_dflt (case k3 => k_asm)
  k_dflt (case k4 => k_asm)
  k_dflt (case k5 => k_asm)
  k_dflt (case kK => first | exact rfl | assumption)
  k_dflt (case kd => ktr_room)
  k_dflt (case ku => ktr_units)
  (case kp => (first | exact ⟨le8 (by with_reducible assumption), le12 (by with_reducible assumption)⟩ | exact ⟨by decide +kernel, by decide +kernel⟩ | omega | fail "pre"))
  (case ks => with_reducible assumption)
  (intro t9 h9 tk9 F9 N9); (try dsimp only); (try k_fold)))
def GoodEnd (P : Prop) : Prop := P
theorem GoodEnd.out {P : Prop} (h : GoodEnd P) : P := h
local macro_rules | `(tactic| walk_at "GoodW cons ok") => `(tactic| (refine GoodEnd.out ?_))
theorem w01 : PySem.Challenge.rw_jl0002_02.Holds := hd01 (by
  k_with_none
  k_with "CompSrc" => (
    k_dflt (refine LCg.CompSrc.ledger (by rfl) (by k_asm) (by k_asm) (by k_mem) (by kcf_size) ?_)
    intro g'
    k_dflt (refine' kct_list (txtG (Str.ofString "abcd-]!^\\")) (by first | assumption | l_ints) (fun k' t' I' oI' C' oC' D' m' ys' h' tk' E' hk' hC' hx' F' N' off' ne' hMark' => ?_) ?_)
    (all_goals (try (simp only [LCg.Off3, and_true] at off')))
    (all_goals (try k_fold)))
  k_with "CompSrc" => (
    k_dflt (refine LCg.CompSrc.range (by rfl) (by k_asm) (by k_asm) (by assumption) (small9 (by with_reducible assumption) (by with_reducible assumption)) (by exact rangeSize_nat _ _) (size9 (by with_reducible assumption)) ?_)
    intro g'
    k_dflt (refine' kct_range (keyG (Str.ofString "ab/") z) (fun k' t' I' oI' C' oC' D' m' ys' h' tk' E' hlo' hhi' hC' hx' F' N' off' ne' hMark' => ?_) ?_)
    (all_goals (try (simp only [LCg.Off3, and_true] at off')))
    (all_goals (try k_fold)))
  k_with "pyIter ref" => (
    (with_reducible show wpAny _ _ (pyIter (Value.ref _)) (fun it s₂ => codeAny _ _ (Code.forLoop (PySem.Expr.Name (Str.ofString "sign") _) _ _ _ _) _ _) _ _)
    (with_reducible rename Fr _ _ _ _ => lF9); (with_reducible rename News _ _ _ _ => lN9)
    k_dflt (refine' iter_any (ItJ [Str.ofString "sign"] _ _) rfl lF9 lN9 ItJ.refl ?j1 ?j2 ?_ ?_)
    (case j1 => (rintro m nx ⟨rfl, _⟩; k_mem))
    (case j2 => (rintro m nx ⟨rfl, _⟩; rfl))
    rintro v I oI m nx h tk hv ⟨rfl, hm⟩ hI F N
    (try k_lt hI)
    have F' := fr_off _ hm F
    clear F
    obtain ⟨z, tz, rfl⟩ : ∃ z tz, v = Value.str z tz := by
      simp only [List.mem_cons, List.not_mem_nil, or_false] at hv
      rcases hv with h | h | h | h | h | h | h <;> exact ⟨_, _, h⟩
    clear hv
    (try k_fold)
    refine wpAny_assign_Name ?_
    rotate_left
    rintro m nx h tk ⟨rfl, hm⟩ F N
    have F' := fr_off _ hm F
    clear F
    (try k_fold)
    rotate_left)
  k_with "pyIter ref" => (
    (with_reducible show wpAny _ _ (pyIter (Value.ref _)) (fun it s₂ => codeAny _ _ (Code.forLoop (PySem.Expr.Name (Str.ofString "at") _) _ _ _ _) _ _) _ _)
    (with_reducible rename Fr _ _ _ _ => lF9); (with_reducible rename News _ _ _ _ => lN9)
    k_dflt (refine' iter_any (ItJ [Str.ofString "at", Str.ofString "sign"] _ _) rfl lF9 lN9 ItJ.refl ?j1 ?j2 ?_ ?_)
    (case j1 => (rintro m nx ⟨rfl, _⟩; k_mem))
    (case j2 => (rintro m nx ⟨rfl, _⟩; rfl))
    rintro v I oI m nx h tk hv ⟨rfl, hm⟩ hI F N
    (try k_lt hI)
    have F' := fr_off _ hm F
    clear F
    (with_reducible rename Str => xJ)
    obtain ⟨z, tz, rfl, hz0, hz1⟩ : ∃ z tz, v = Value.int z tz ∧ 0 ≤ z ∧ z ≤ (xJ.length : Int) := by
      simp only [List.mem_cons, List.not_mem_nil, or_false] at hv
      rcases hv with h | h | h
      · exact ⟨_, _, h, by omega, by omega⟩
      · exact ⟨_, _, h, Int.fmod_nonneg_of_pos _ (by omega), Int.le_of_lt_add_one (Int.fmod_lt_of_pos _ (by omega))⟩
      · exact ⟨_, _, h, by omega, by omega⟩
    clear hv
    (try k_fold)
    refine wpAny_assign_Name ?_
    rotate_left
    rintro m nx h tk ⟨rfl, hm⟩ F N
    have F' := fr_off _ hm F
    clear F
    (try k_fold)
    rotate_left)
  k_with "pyIter ref" => (
    (with_reducible show wpAny _ _ (pyIter (Value.ref _)) (fun it s₂ => codeAny _ _ (Code.forLoop (PySem.Expr.Name (Str.ofString "number") _) _ _ _ _) _ _) _ _)
    (with_reducible rename Fr _ _ _ _ => lF9); (with_reducible rename News _ _ _ _ => lN9)
    k_dflt (refine' iter_any (ItJc [Str.ofString "key", Str.ofString "cut", Str.ofString "more", Str.ofString "pattern", Str.ofString "star", Str.ofString "begins", Str.ofString "due"] [_, _, _, _, _] _ [_] _) rfl lF9 lN9 (ItJc.start ?j0) ?j1 ?j2 ?_ ?_)
    (case j0 => exact ⟨_, by assumption⟩)
    (case j1 => (rintro m nx ⟨⟨oc, v, rfl, hd⟩, hm⟩; k_dflt k_mem))
    (case j2 => (rintro m nx ⟨⟨oc, v, rfl, hd⟩, hm⟩; rfl))
    rintro v I oI m nx h tk hv ⟨⟨oc, v₀, rfl, hd⟩, hm⟩ hI F N
    simp only [List.cons_append, List.nil_append] at N
    (try k_lt hI)
    have F' := fr_off _ hm F
    clear F
    obtain ⟨z, tz, rfl⟩ := ints_mem (by assumption) hv
    clear hv
    (try k_fold)
    refine wpAny_assign_Name ?_
    rotate_left
    rintro m nx h tk ⟨⟨oc, v₀, rfl, hd⟩, hm⟩ F N
    simp only [List.cons_append, List.nil_append] at N
    have F' := fr_off _ hm F
    clear F
    (try k_fold)
    rotate_left)
  w_strict (
    k_go0
    (all_goals try k_fold)
    (repeat' (first | (k_unfold; (try dsimp only)) | walk1 | (dsimp only; walk1) | (leave1; try dsimp only) | fail "no step"))
    all_goals first
      | (exfalso; (with_reducible rename rmF _ _ _ ≠ lcF _ _ _ => hne9); exact hne9 (rmF_lcF (by with_reducible assumption) (by with_reducible assumption)))
      | (exfalso; (with_reducible rename Txt.split _ _ = _ :: _ => hb9); first
          | exact x2 hb9 (by with_reducible assumption) (by with_reducible assumption)
          | exact x8 hb9 (by with_reducible assumption) (by with_reducible assumption) (by with_reducible assumption)
          | exact x5 hb9 (by with_reducible assumption) (by with_reducible assumption) (by with_reducible assumption)
          | exact x7 (p := _) (by with_reducible assumption) (by with_reducible assumption)
          | exact x9 (p := _) (by with_reducible assumption) (by with_reducible assumption)
          | exact x12 (by with_reducible assumption) (by with_reducible assumption)
          | exact x3 hb9 (by with_reducible assumption) (by with_reducible assumption)
          | exact x6 hb9 (by with_reducible assumption) (by with_reducible assumption)
          | exact x4 hb9 (by with_reducible assumption) (by with_reducible assumption) (by with_reducible assumption)
          | exact x11 hb9 (by with_reducible assumption) (by with_reducible assumption) (by with_reducible assumption)
          | exact x10 hb9 (by with_reducible assumption) (by with_reducible assumption) (by with_reducible assumption))
      | (exfalso; exact no_tf k1 (by with_reducible assumption))
      | (exfalso; exact no_tf k2 (by with_reducible assumption))
      | (exfalso; exact no_tf (by with_reducible assumption) k3)
      | (unfold GoodEnd; rw [k4]; k_end; wrow_close)))
end Mine
theorem PySem.Challenge.cw_jl0002_02_holds : PySem.Challenge.rw_jl0002_02.Holds := by
  exact Mine.w01
