import PyProof.Rows.All
import Wide.All
import OpenK.AllK
import Wide.FinOn
import KE.KAnyBase
import KE.KLcPair
import PySem.Challenge.RW_ku0008_01
set_option Elab.async false
set_option maxRecDepth 100000
set_option maxHeartbeats 8000000
set_option linter.unusedVariables false
section
namespace Ku
noncomputable abbrev T := List Nat
noncomputable def hexU (d : Nat) : Nat := if d < 10 then 48 + d else 55 + d
noncomputable def esc (c : Nat) : T := [61, hexU (c / 16), hexU (c % 16)]
noncomputable def pl (c : Nat) : Bool := c == 9 || (decide (32 ≤ c) && decide (c ≤ 126) && c != 61)
noncomputable def code (c : Nat) : T := if pl c then [c] else esc c
noncomputable def bm (c : Nat) : T := if pl c || c == 10 || c == 13 then [c] else esc c
noncomputable def trans (l : T) : T := l.flatMap bm
noncomputable def fin (m : Nat) (eol r : T) : T :=
  match r.getLast? with
  | some c =>
    if c = 32 ∨ c = 9 then
      (if r.length + 2 ≤ m then r.dropLast ++ esc c
       else if r.length + 1 = m then r.dropLast ++ c :: 61 :: eol
       else r.dropLast ++ (61 :: eol ++ esc c))
    else r
  | none => r
noncomputable def encR (m : Nat) (eol : T) : Nat → T → List T
  | 0, r => [fin m eol r]
  | f + 1, r => if m < r.length then
      (if r.getD (m - 3) 0 = 61 then r.take (m - 2) :: encR m eol f (r.drop (m - 3))
       else if r.getD (m - 2) 0 = 61 then r.take (m - 1) :: encR m eol f (r.drop (m - 2))
       else (r.take (m - 1) ++ [61]) :: encR m eol f (r.drop (m - 1)))
    else [fin m eol r]
noncomputable def encLine (m : Nat) (eol r : T) : List T := encR m eol r.length r
noncomputable def splitL : T → T → List T
  | [], acc => if acc = [] then [] else [acc]
  | [c], acc => if c = 10 ∨ c = 13 then [acc] else [acc ++ [c]]
  | c :: d :: t, acc =>
    if c = 13 ∧ d = 10 then acc :: splitL t []
    else if c = 10 ∨ c = 13 then acc :: splitL (d :: t) []
    else splitL (d :: t) (acc ++ [c])
noncomputable def joinT (sep : T) : List T → T
  | [] => []
  | [x] => x
  | x :: y :: r => x ++ sep ++ joinT sep (y :: r)
noncomputable def endsBr (l : T) : Bool := l.getLast? == some 10 || l.getLast? == some 13
noncomputable def bodyEnc (body : T) (m : Nat) (eol : T) : T :=
  if body = [] then [] else
    joinT eol ((splitL (trans body) []).flatMap (encLine m eol) ++ (if endsBr (trans body) then [[]] else []))
noncomputable def isHex (c : Nat) : Bool := (decide (48 ≤ c) && decide (c ≤ 57)) || (decide (65 ≤ c) && decide (c ≤ 70)) || (decide (97 ≤ c) && decide (c ≤ 102))
noncomputable def hexV (c : Nat) : Nat := if c ≤ 57 then c - 48 else if c ≤ 70 then c - 55 else c - 87
noncomputable def decR (eol : T) : T → T
  | [] => eol
  | c :: t =>
    if c = 61 then
      match t with
      | [] => []
      | a :: [] => 61 :: decR eol [a]
      | a :: b :: t' => if isHex a && isHex b then (hexV a * 16 + hexV b) :: decR eol t' else 61 :: decR eol (a :: b :: t')
    else c :: decR eol t
noncomputable def isWs (c : Nat) : Bool := c == 32 || (decide (9 ≤ c) && decide (c ≤ 13))
noncomputable def rstripT (l : T) : T := (l.reverse.dropWhile isWs).reverse
noncomputable def endsW (x y : T) : Bool := x.drop (x.length - y.length) == y && decide (y.length ≤ x.length)
noncomputable def decS (e eol : T) : T :=
  if e = [] then [] else
    let d := (splitL e []).flatMap (fun l => decR eol (rstripT l))
    if !endsBr e && endsW d eol then d.take (d.length - eol.length) else d
noncomputable def noteS (count last m : Nat) (eol : T) : T :=
  let breaks := (count - 1) / (m - 1)
  let left := count - breaks * (m - 1)
  let row := (List.replicate breaks (List.replicate (m - 1) 110 ++ 61 :: eol)).flatten ++ List.replicate left 110
  if last = 46 then row ++ [46]
  else
    let cd := if last = 32 then [61, 50, 48] else [61, 48, 57]
    if left + 2 < m then row ++ cd
    else if left + 2 = m then row ++ last :: 61 :: eol else row ++ (61 :: eol) ++ cd
/-! ### the rows of a note -/
noncomputable def noteRows (count last m : Nat) : List T :=
  let breaks := (count - 1) / (m - 1)
  let left := count - breaks * (m - 1)
  let hd := List.replicate breaks (List.replicate (m - 1) 110 ++ [61])
  let tl := List.replicate left 110
  if last = 46 then hd ++ [tl ++ [46]]
  else
    let cd := if last = 32 then [61, 50, 48] else [61, 48, 57]
    if left + 2 < m then hd ++ [tl ++ cd]
    else if left + 2 = m then hd ++ [tl ++ [last, 61], []] else hd ++ [tl ++ [61], cd]
noncomputable def rooms : List Nat := [4, 5, 7, 10, 11, 12, 13, 14, 15, 19, 20, 21]
end Ku
end
section
namespace Ku
theorem splitL_nobr : ∀ (x acc : T), (∀ c ∈ x, c ≠ 10 ∧ c ≠ 13) → splitL x acc = if acc ++ x = [] then [] else [acc ++ x]
  | [], acc, _ => by simp [splitL]
  | [c], acc, h => by
    have := h c (by simp)
    simp [splitL, this.1, this.2]
  | c :: d :: t, acc, h => by
    have h1 := h c (by simp)
    rw [splitL, if_neg (by (first | lia | omega)), if_neg (by (first | lia | omega)), splitL_nobr (d :: t) (acc ++ [c]) (fun x hx => h x (by simp only [List.mem_cons] at hx ⊢; exact .inr hx))]
    simp
noncomputable def IsMark (e : T) : Prop := e = [10] ∨ e = [13] ∨ e = [13, 10]
theorem splitL_mark {e : T} (he : IsMark e) (acc r : T) (hr : e = [13] → 10 ∉ r) : splitL (e ++ r) acc = acc :: splitL r [] := by
  rcases he with rfl | rfl | rfl
  · cases r with
    | nil => simp [splitL]
    | cons d t => simp [splitL]
  · cases r with
    | nil => simp [splitL]
    | cons d t =>
      have := hr rfl
      simp only [List.mem_cons, not_or] at this
      simp [splitL, Ne.symm this.1]
  · simp [splitL]
theorem splitL_line {e : T} (he : IsMark e) (r : T) (hr : e = [13] → 10 ∉ r) : ∀ (x acc : T), (∀ c ∈ x, c ≠ 10 ∧ c ≠ 13) → splitL (x ++ (e ++ r)) acc = (acc ++ x) :: splitL r []
  | [], acc, _ => by simpa using splitL_mark he acc r hr
  | c :: t, acc, h => by
    have h1 := h c (by simp)
    have ih := splitL_line he r hr t (acc ++ [c]) (fun x hx => h x (by simp [hx]))
    obtain ⟨d, u, hu⟩ : ∃ d u, t ++ (e ++ r) = d :: u := by
      cases hq : t ++ (e ++ r) with
      | nil =>
        exfalso
        have : e = [] := by simp at hq; exact hq.2.1
        rcases he with rfl | rfl | rfl <;> cases this
      | cons d u => exact ⟨d, u, rfl⟩
    rw [List.cons_append, hu, splitL, if_neg (by (first | lia | omega)), if_neg (by (first | lia | omega)), ← hu, ih]
    simp
noncomputable def NoBr (x : T) : Prop := ∀ c ∈ x, c ≠ 10 ∧ c ≠ 13
theorem joinT_cons {e x : T} {r : List T} (h : r ≠ []) : joinT e (x :: r) = x ++ (e ++ joinT e r) := by
  cases r with
  | nil => exact absurd rfl h
  | cons y r => simp [joinT]
theorem joinT_append {e : T} : ∀ {a b : List T}, a ≠ [] → b ≠ [] → joinT e (a ++ b) = joinT e a ++ (e ++ joinT e b)
  | [], _, h, _ => absurd rfl h
  | [x], b, _, hb => by simpa [joinT] using joinT_cons hb
  | x :: y :: r, b, _, hb => by
    rw [List.cons_append, joinT_cons (by simp), joinT_append (a := y :: r) (by simp) hb, joinT_cons (r := y :: r) (by simp)]
    simp only [List.append_assoc]
theorem mem_joinT {e : T} {c : Nat} : ∀ {rows : List T}, c ∈ joinT e rows → c ∈ e ∨ ∃ r ∈ rows, c ∈ r
  | [], h => by simp [joinT] at h
  | [x], h => by exact .inr ⟨x, by simp, by simpa [joinT] using h⟩
  | x :: y :: r, h => by
    rw [joinT_cons (by simp)] at h
    simp only [List.mem_append] at h
    rcases h with h | h | h
    · exact .inr ⟨x, by simp, h⟩
    · exact .inl h
    · rcases mem_joinT h with h | ⟨q, hq, hc⟩
      · exact .inl h
      · exact .inr ⟨q, by simp only [List.mem_cons] at hq ⊢; exact .inr hq, hc⟩
theorem splitL_join {e : T} (he : IsMark e) : ∀ (rows : List T), (∀ r ∈ rows, NoBr r) → splitL (joinT e rows) [] = if rows.getLast? = some [] then rows.dropLast else rows
  | [], _ => by simp [joinT, splitL]
  | [x], h => by
    have := splitL_nobr x [] (h x (by simp))
    rw [joinT, this]
    cases x <;> simp
  | x :: y :: r, h => by
    rw [joinT_cons (by simp), splitL_line he _ ?_ x [] (h x (by simp)), splitL_join he (y :: r) (fun q hq => h q (by simp only [List.mem_cons] at hq ⊢; exact .inr hq))]
    · rw [List.getLast?_cons_cons]
      split <;> simp
    · rintro rfl hm
      rcases mem_joinT hm with hm | ⟨q, hq, hc⟩
      · simp at hm
      · exact (h q (by simp only [List.mem_cons] at hq ⊢; exact .inr hq) 10 hc).1 rfl
theorem trans_append (a b : T) : trans (a ++ b) = trans a ++ trans b := by simp [trans]
theorem trans_mark {e : T} (he : IsMark e) : trans e = e := by rcases he with rfl | rfl | rfl <;> decide
theorem trans_join {e : T} (he : IsMark e) : ∀ rows : List T, trans (joinT e rows) = joinT e (rows.map trans)
  | [] => rfl
  | [x] => rfl
  | x :: y :: r => by
    rw [joinT_cons (by simp), trans_append, trans_append, trans_mark he, trans_join he (y :: r)]
    simp [joinT]
theorem endsBr_append (a b : T) (h : b ≠ []) : endsBr (a ++ b) = endsBr b := by
  unfold endsBr
  rw [List.getLast?_append]
  cases hb : b.getLast? with
  | none => exact absurd (List.getLast?_eq_none_iff.mp hb) h
  | some c => simp
theorem endsBr_mark {e : T} (he : IsMark e) : endsBr e = true := by rcases he with rfl | rfl | rfl <;> decide
theorem endsBr_join_nil {e : T} (he : IsMark e) (rows : List T) (h : rows ≠ []) : endsBr (joinT e (rows ++ [[]])) = true := by
  rw [joinT_append h (by simp)]
  have hne : e ≠ [] := by rcases he with rfl | rfl | rfl <;> simp
  rw [endsBr_append _ _ (by simp [hne])]
  simpa [joinT] using endsBr_mark he
theorem endsBr_join {e x : T} (rows : List T) (hx : x ≠ []) : endsBr (joinT e (rows ++ [x])) = endsBr x := by
  cases rows with
  | nil => rfl
  | cons y r =>
    rw [joinT_append (by simp) (by simp), ← List.append_assoc, endsBr_append _ _ (by simpa [joinT] using hx)]; rfl
theorem endsBr_nobr {x : T} (h : NoBr x) : endsBr x = false := by
  unfold endsBr
  cases hb : x.getLast? with
  | none => rfl
  | some c =>
    have := h c (List.mem_of_getLast? hb)
    simp [this.1, this.2]
end Ku
end
section
namespace Ku
theorem encR_fuel (m : Nat) (hm : 4 ≤ m) (eol : T) : ∀ (f g : Nat) (r : T), r.length ≤ f → r.length ≤ g → encR m eol f r = encR m eol g r
  | 0, 0, _, _, _ => rfl
  | 0, g + 1, r, hf, _ => by rw [encR, encR, if_neg (by (first | lia | omega))]
  | f + 1, 0, r, _, hg => by rw [encR, encR, if_neg (by (first | lia | omega))]
  | f + 1, g + 1, r, hf, hg => by
    rw [encR, encR]
    split
    · split
      · rw [encR_fuel m hm eol f g _ (by rw [List.length_drop]; (first | lia | omega)) (by rw [List.length_drop]; (first | lia | omega))]
      · split
        · rw [encR_fuel m hm eol f g _ (by rw [List.length_drop]; (first | lia | omega)) (by rw [List.length_drop]; (first | lia | omega))]
        · rw [encR_fuel m hm eol f g _ (by rw [List.length_drop]; (first | lia | omega)) (by rw [List.length_drop]; (first | lia | omega))]
    · rfl
theorem encLine_long {m : Nat} (hm : 4 ≤ m) {eol r : T} (h : m < r.length) : encLine m eol r =
    (if r.getD (m - 3) 0 = 61 then r.take (m - 2) :: encLine m eol (r.drop (m - 3))
     else if r.getD (m - 2) 0 = 61 then r.take (m - 1) :: encLine m eol (r.drop (m - 2))
     else (r.take (m - 1) ++ [61]) :: encLine m eol (r.drop (m - 1))) := by
  unfold encLine
  obtain ⟨f, hf⟩ : ∃ f, r.length = f + 1 := ⟨r.length - 1, by (first | lia | omega)⟩
  conv => lhs; rw [hf, encR, if_pos h]
  have hd : ∀ j, 1 ≤ j → encR m eol f (r.drop j) = encR m eol (r.drop j).length (r.drop j) := fun j hj => encR_fuel m hm eol _ _ _ (by rw [List.length_drop]; (first | lia | omega)) (Nat.le_refl _)
  rw [hd (m - 3) (by (first | lia | omega)), hd (m - 2) (by (first | lia | omega)), hd (m - 1) (by (first | lia | omega))]
theorem encLine_short {m : Nat} {eol r : T} (h : ¬ m < r.length) : encLine m eol r = [fin m eol r] := by
  unfold encLine
  cases hr : r.length with
  | zero => rfl
  | succ f => rw [encR, if_neg h]
theorem fin_len (m : Nat) (eol r : T) : (fin m eol r).length ≤ r.length + 4 + eol.length := by
  unfold fin
  cases hr : r.getLast? with
  | none => simp only; (first | lia | omega)
  | some c =>
    simp only
    have : 1 ≤ r.length := by
      cases r with
      | nil => simp at hr
      | cons => simp
    split
    · split
      · simp [esc]; (first | lia | omega)
      · split
        · simp; (first | lia | omega)
        · simp [esc]; (first | lia | omega)
    · (first | lia | omega)
theorem encR_len (m : Nat) (eol : T) : ∀ (f : Nat) (r : T), ∀ y ∈ encR m eol f r, y.length ≤ r.length + 4 + eol.length
  | 0, r, y, hy => by
    rw [encR, List.mem_singleton] at hy
    subst hy; exact fin_len m eol r
  | f + 1, r, y, hy => by
    rw [encR] at hy
    split at hy
    · split at hy
      · rcases List.mem_cons.mp hy with rfl | hy
        · rw [List.length_take]; (first | lia | omega)
        · have := encR_len m eol f _ y hy; rw [List.length_drop] at this; (first | lia | omega)
      · split at hy
        · rcases List.mem_cons.mp hy with rfl | hy
          · rw [List.length_take]; (first | lia | omega)
          · have := encR_len m eol f _ y hy; rw [List.length_drop] at this; (first | lia | omega)
        · rcases List.mem_cons.mp hy with rfl | hy
          · rw [List.length_append, List.length_take, List.length_singleton]; (first | lia | omega)
          · have := encR_len m eol f _ y hy; rw [List.length_drop] at this; (first | lia | omega)
    · rw [List.mem_singleton] at hy
      subst hy; exact fin_len m eol r
theorem encR_count (m : Nat) (eol : T) : ∀ (f : Nat) (r : T), (encR m eol f r).length ≤ f + 1
  | 0, r => by simp [encR]
  | f + 1, r => by
    rw [encR]
    have := encR_count m eol f
    split
    · split
      · rw [List.length_cons]; have := this (r.drop (m - 3)); (first | lia | omega)
      · split
        · rw [List.length_cons]; have := this (r.drop (m - 2)); (first | lia | omega)
        · rw [List.length_cons]; have := this (r.drop (m - 1)); (first | lia | omega)
    · simp
theorem splitL_weight : ∀ (x acc : T), ((splitL x acc).map (fun y => y.length + 1)).sum ≤ x.length + acc.length + 1
  | [], acc => by rw [splitL]; split <;> simp
  | [c], acc => by
    rw [splitL]
    split
    · simp
    · simp; (first | lia | omega)
  | c :: d :: t, acc => by
    rw [splitL]
    split
    · have := splitL_weight t []
      simp only [List.map_cons, List.sum_cons, List.length_cons, List.length_nil] at this ⊢; (first | lia | omega)
    · split
      · have := splitL_weight (d :: t) []
        simp only [List.map_cons, List.sum_cons, List.length_cons, List.length_nil] at this ⊢; (first | lia | omega)
      · have := splitL_weight (d :: t) (acc ++ [c])
        simp only [List.length_append, List.length_cons, List.length_nil] at this ⊢; (first | lia | omega)
theorem mem_sum_le {x : Nat} : ∀ {l : List Nat}, x ∈ l → x ≤ l.sum
  | y :: r, h => by
    rcases List.mem_cons.mp h with rfl | h
    · simp
    · have := mem_sum_le h; simp; (first | lia | omega)
/-- the pieces: how many, how long -/
theorem pieces_count (m : Nat) (eol : T) (ls : List T) : (ls.flatMap (encLine m eol)).length ≤ (ls.map (fun y => y.length + 1)).sum := by
  induction ls with
  | nil => simp
  | cons x r ih =>
    have h1 : (encLine m eol x).length ≤ x.length + 1 := encR_count m eol _ x
    simp only [List.flatMap_cons, List.length_append, List.map_cons, List.sum_cons]
    (first | lia | omega)
theorem pieces_len {m : Nat} {eol : T} {ls : List T} {B : Nat} (hB : ∀ x ∈ ls, x.length ≤ B) : ∀ y ∈ ls.flatMap (encLine m eol), y.length ≤ B + 4 + eol.length := by
  intro y hy
  obtain ⟨x, hx, hy⟩ := List.mem_flatMap.mp hy
  have h1 := encR_len m eol _ x y hy
  have h2 := hB x hx
  (first | lia | omega)
theorem splitL_len {x : T} : ∀ y ∈ splitL x [], y.length ≤ x.length := by
  intro y hy
  have h1 := splitL_weight x []
  have h2 : y.length + 1 ≤ ((splitL x []).map (fun y => y.length + 1)).sum := mem_sum_le (List.mem_map.mpr ⟨y, hy, rfl⟩)
  simp only [List.length_nil] at h1
  (first | lia | omega)
end Ku
end
section
open PySem PySem.W PyProof.Rows
namespace Ku
noncomputable abbrev prog : Program := PySem.Challenge.pw_ku0008_01
noncomputable def fstmt (i : Nat) : Stmt := (prog.main.body[i]?).getD (.Pass default)
noncomputable def fname (i : Nat) : Str := match fstmt i with | .FunctionDef n _ _ _ _ _ _ _ _ _ => n | _ => Str.empty
noncomputable def fparams (i : Nat) : Arguments := match fstmt i with | .FunctionDef _ p _ _ _ _ _ _ _ _ => p | _ => default
noncomputable def fbody (i : Nat) : List Stmt := match fstmt i with | .FunctionDef _ _ b _ _ _ _ _ _ _ => b | _ => []
noncomputable def fscope (i : Nat) : Scope := match fstmt i with | .FunctionDef _ _ _ _ _ _ s _ _ _ => s | _ => default
/-- the def's object, its code's record, its defaults -/
noncomputable def FnIs (h : Heap) (i : Nat) (f : Addr) (dV : List Value) : Prop :=
  ∃ (o : Obj) (dv kV doc pm : Value) (an : Option Addr) (cdv ct : Value),
    h.get? f = some o ∧ o.data = .func (fnOf (fname i) (fname i) (fparams i) (fbody i) (fscope i) dv kV doc pm an cdv ct) ∧ h.CodeRec cdv (fname i) ∧
    (dV = [] → dv = .none) ∧ (dV ≠ [] → ∃ T oT n, dv = .ref T ∧ h.get? T = some oT ∧ oT.data = .seq dV.toArray n)
theorem FnIs.keeps {h h' : Heap} {i f dV} (x : FnIs h i f dV) (k : ∀ b o, h.get? b = some o → h'.get? b = some o) : FnIs h' i f dV := by
  obtain ⟨o, dv, kV, doc, pm, an, cdv, ct, h1, h2, h3, h4, h5⟩ := x
  refine ⟨o, dv, kV, doc, pm, an, cdv, ct, k _ _ h1, h2, h3.keeps k, h4, fun q => ?_⟩
  obtain ⟨T, oT, n, e1, e2, e3⟩ := h5 q
  exact ⟨T, oT, n, e1, k _ _ e2, e3⟩
structure Ad where
  qmap : Addr
  bmap : Addr
  unquote : Addr
  quote : Addr
  enc : Addr
  dec : Addr
  floordiv : Addr
  mod : Addr
  mul : Addr
  concat : Addr
  getitem : Addr
  indexOf : Addr
  hint : Addr
  code : Addr
  note : Addr
  dealt : Addr
  refused : Addr
noncomputable def mkS (l : T) : Str := ⟨l.toArray⟩
noncomputable def TabIs (h : Heap) (a : Addr) (f : Nat → T) : Prop := ∃ vs : Array Value, h.IsList a vs ∧ ∀ c < 256, ∃ t, vs[c]? = some (.str (mkS (f c)) t)
theorem TabIs.keeps {h h' : Heap} {a f} (x : TabIs h a f) (k : ∀ b o, h.get? b = some o → h'.get? b = some o) : TabIs h' a f := by
  obtain ⟨vs, ⟨o, ho, r⟩, h2⟩ := x
  exact ⟨vs, ⟨o, k _ _ ho, r⟩, h2⟩
noncomputable def biNames : List Str := [Str.ofString "ord", Str.ofString "chr", Str.ofString "int", Str.ofString "len", Str.ofString "ValueError", Str.ofString "hasattr", Str.ofString "enumerate",
  Str.ofString "isinstance", Str.ofString "max", Str.ofString "range", Str.ofString "str", Str.ofString "list", Str.ofString "sum"]
structure Glb (d : Ad) (mg mb : Str → Option Value) (h : Heap) : Prop where
  g : h.Ns mainGlobals mg
  b : h.Ns builtinsNs mb
  bi : ∀ x : Str, x ≠ "__name__" → mb x = bootBuiltins x
  nolimit : h.NoLimit
  free : ∀ x ∈ biNames, mg x = none
  crlf : ∃ t, mg (Str.ofString "CRLF") = some (.str (Str.ofString "\r\n") t)
  hexd : ∃ t, mg (Str.ofString "hexdigits") = some (.str (Str.ofString "0123456789abcdefABCDEF") t)
  nqmap : mg (Str.ofString "_QUOPRI_MAP") = some (.ref d.qmap)
  qmap : TabIs h d.qmap esc
  nbmap : mg (Str.ofString "_QUOPRI_BODY_ENCODE_MAP") = some (.ref d.bmap)
  bmap : TabIs h d.bmap bm
  nunquote : mg (Str.ofString "unquote") = some (.ref d.unquote)
  unquote : FnIs h 14 d.unquote []
  nquote : mg (Str.ofString "quote") = some (.ref d.quote)
  quote : FnIs h 15 d.quote []
  nenc : mg (Str.ofString "body_encode") = some (.ref d.enc)
  enc : ∃ t u, FnIs h 19 d.enc [.int 76 t, .str (Str.ofString "\n") u]
  ndec : mg (Str.ofString "decode") = some (.ref d.dec)
  dec : ∃ u, FnIs h 20 d.dec [.str (Str.ofString "\n") u]
  nfloordiv : mg (Str.ofString "floordiv") = some (.ref d.floordiv)
  floordiv : FnIs h 22 d.floordiv []
  nmod : mg (Str.ofString "mod") = some (.ref d.mod)
  mod : FnIs h 23 d.mod []
  nmul : mg (Str.ofString "mul") = some (.ref d.mul)
  mul : FnIs h 24 d.mul []
  nconcat : mg (Str.ofString "concat") = some (.ref d.concat)
  concat : FnIs h 25 d.concat []
  ngetitem : mg (Str.ofString "getitem") = some (.ref d.getitem)
  getitem : FnIs h 26 d.getitem []
  nindexOf : mg (Str.ofString "indexOf") = some (.ref d.indexOf)
  indexOf : FnIs h 27 d.indexOf []
  nhint : mg (Str.ofString "length_hint") = some (.ref d.hint)
  hint : ∃ t, FnIs h 28 d.hint [.int 0 t]
  ncode : mg (Str.ofString "_law_code") = some (.ref d.code)
  code : FnIs h 30 d.code []
  nnote : mg (Str.ofString "_law_note") = some (.ref d.note)
  note : FnIs h 31 d.note []
  ndealt : mg (Str.ofString "_law_dealt") = some (.ref d.dealt)
  dealt : FnIs h 32 d.dealt []
  nrefused : mg (Str.ofString "_law_refused") = some (.ref d.refused)
  refused : FnIs h 33 d.refused []
theorem Glb.keeps {d mg mb} {h h' : Heap} (G : Glb d mg mb h) (k : ∀ b o, h.get? b = some o → h'.get? b = some o) : Glb d mg mb h' where
  g := G.g.keeps k
  b := G.b.keeps k
  bi := G.bi
  nolimit := G.nolimit.keeps k
  free := G.free
  crlf := G.crlf
  hexd := G.hexd
  nqmap := G.nqmap
  qmap := G.qmap.keeps k
  nbmap := G.nbmap
  bmap := G.bmap.keeps k
  nunquote := G.nunquote
  unquote := G.unquote.keeps k
  nquote := G.nquote
  quote := G.quote.keeps k
  nenc := G.nenc
  enc := let ⟨t, u, x⟩ := G.enc; ⟨t, u, x.keeps k⟩
  ndec := G.ndec
  dec := let ⟨u, x⟩ := G.dec; ⟨u, x.keeps k⟩
  nfloordiv := G.nfloordiv
  floordiv := G.floordiv.keeps k
  nmod := G.nmod
  mod := G.mod.keeps k
  nmul := G.nmul
  mul := G.mul.keeps k
  nconcat := G.nconcat
  concat := G.concat.keeps k
  ngetitem := G.ngetitem
  getitem := G.getitem.keeps k
  nindexOf := G.nindexOf
  indexOf := G.indexOf.keeps k
  nhint := G.nhint
  hint := let ⟨t, x⟩ := G.hint; ⟨t, x.keeps k⟩
  ncode := G.ncode
  code := G.code.keeps k
  nnote := G.nnote
  note := G.note.keeps k
  ndealt := G.ndealt
  dealt := G.dealt.keeps k
  nrefused := G.nrefused
  refused := G.refused.keeps k
/-- room for n more frames -/
structure AOk (A : Around) (n : Nat) : Prop where
  handled : A.handled = none
  depth : A.depth + n < 900
  units : A.units + 10 * n < 9000
theorem AOk.deeper {A : Around} {n : Nat} (h : AOk A (n + 1)) (env : Env) : AOk (A.deeper env) n := ⟨h.handled, by have := h.depth; show A.depth + 1 + n < 900; (first | lia | omega), by have := h.units; show A.units + 3 + 10 * n < 9000; (first | lia | omega)⟩
theorem AOk.room {A : Around} {n : Nat} (h : AOk A n) : A.depth < recursionLimit := by have := h.depth; unfold recursionLimit; (first | lia | omega)
theorem AOk.cl {A : Around} {n : Nat} (h : AOk A n) : A.units < cLine := by have := h.units; unfold cLine; (first | lia | omega)
section
variable {w : World} {A : Around} {E : Value → Shared → Prop} {s : Shared} {d : Ad} {mg mb : Str → Option Value}
theorem fn_enter {i : Nat} {f : Addr} {dV args : List Value} {Q : Value → Shared → Prop} {n : Nat} {body : List Stmt} {scope : Scope} {params : Arguments} (binds : List (Str × Value)) (G : Glb d mg mb s.heap) (H : FnIs s.heap i f dV) (hA : AOk A (n + 1))
    (hp : fparams i = params) (hb : fbody i = body) (hs : fscope i = scope)
    (hbind : ∀ dv kV doc pm an cdv ct, (dV = [] → dv = .none) → (dV ≠ [] → ∃ T oT n, dv = .ref T ∧ s.heap.get? T = some oT ∧ oT.data = .seq dV.toArray n) → BindsTo s (fnOf (fname i) (fname i) params body scope dv kV doc pm an cdv ct) ⟨args, []⟩ binds)
    (hcell : ∀ x ∈ scope.names, x.2 ≠ .cell) (hloc : ∀ x ∈ binds, scope.names.lookup x.1 = some .local) (hco : scope.isCoroutine = false) (hgen : scope.isGenerator = false) (hk : scope.kind = .function)
    (h : ∀ (h₁ : Heap) (L : Addr) (cdv : Value) (A' : Around) (Qf : Flow → Shared → Prop) (Ef : Value → Shared → Prop), AOk A' n → (∀ v s', Q v s' → Qf (.ret v) s') → (∀ s', Q .none s' → Qf .next s') → Fr s.heap L h₁ (fun x => binds.reverse.lookup x) → News s.heap L h₁ [] →
      wpAny (model prog w) A' (execs body (envOf (fname i) scope L f cdv)) Qf Ef { s with heap := h₁, toks := s.toks + binds.length }) :
    wpAny (model prog w) A (call (.ref f) args) Q E s := by
  subst hp hb hs
  obtain ⟨o, dv, kV, doc, pm, an, cdv, ct, h1, h2, h3, h4, h5⟩ := H
  refine wpAny_call (codeAny_call_def (fd := fnOf (fname i) (fname i) (fparams i) (fbody i) (fscope i) dv kV doc pm an cdv ct) (body := fbody i) (binds := binds) hA.room h1 h2 G.nolimit h3 rfl (hbind _ _ _ _ _ _ _ h4 h5) hcell hloc (fun h₁ hns hk₁ => ?_) hco hgen hk)
  exact h h₁ _ cdv _ _ _ (hA.deeper _) (fun v s' q => q) (fun s' q => q) ⟨hns, hk₁, Nat.le_refl _⟩ News.nil
end
end Ku
end
section
open PySem PySem.W PyProof.Rows
namespace Ku
/-! ### the top of the text, walked by the kernel alone: the heaps at three cuts -/
noncomputable def st (x : String) (t : Nat) : Value := .str (Str.ofString x) t
noncomputable def en (P : Params) (x : String) (t : Nat) (v : Value) : DictEntry := ⟨PyData.keyHash P (Str.ofString x), .str (Str.ofString x) t, v⟩
noncomputable def tabV (f : Nat → Value) : Nat → Nat → List Value
  | 0, _ => []
  | n + 1, c => f c :: tabV f n (c + 1)
noncomputable def hxV (c : Nat) : Value := .str (mkS (esc c)) (197 + 4 * c)
noncomputable def sgV (c t : Nat) : Value := .str (mkS [c]) t
noncomputable def hdV (c : Nat) : Value :=
  if c = 32 then sgV 95 1444 else if c = 45 then sgV c 1245 else if c = 33 then sgV c 1248 else if c = 42 then sgV c 1251 else if c = 43 then sgV c 1254 else if c = 47 then sgV c 1257
  else if c < 48 then hxV c else if c < 58 then sgV c (1416 + 3 * (c - 48)) else if c < 65 then hxV c else if c < 91 then sgV c (1338 + 3 * (c - 65)) else if c < 97 then hxV c else if c < 123 then sgV c (1260 + 3 * (c - 97)) else hxV c
noncomputable def bmV (c : Nat) : Value :=
  if c = 9 then sgV c 1732 else if c < 32 then hxV c else if c < 61 then sgV c (1450 + 3 * (c - 32)) else if c = 61 then hxV c else if c < 127 then sgV c (1450 + 3 * (c - 33)) else hxV c
noncomputable def beV (c : Nat) : Value := if c = 10 then sgV c 1754 else if c = 13 then sgV c 1751 else bmV c
noncomputable def ob53 (P : Params) : Obj := { cls := .type "tuple", data := Data.seq #[] }
noncomputable def ob54 (P : Params) : Obj := { cls := .none, data := Data.fields #[] }
noncomputable def ob55 (P : Params) : Obj := { cls := .type "code", data := Data.fields #[st "<module>" 182, st "<module>" 183, st "/claim/cut.py" 184, .int 1 0, .int 0 0, .int 0 0, .int 0 0, .int 0 0, .ref 11, .bool false, .int 181 0, .ref 12, .none, .none, .none, .none, .int 185 0, .int 1 0, st "/claim/cut.py" 186] }
noncomputable def ob56 (P : Params) : Obj := { cls := .type "frame", slots := #[some (.ref 13), some (.ref 3), some (.ref 3), none, some (st "__main__" 164), none, some (.ref 0)] }
noncomputable def obK (P : Params) : Obj := { cls := .type "dict", data := Data.dict #[en P "__name__" 165 (st "__main__" 164), en P "__doc__" 166 (.none), en P "__package__" 167 (.none), en P "__loader__" 168 (.builtin "__main__.__loader__#opaque"), en P "__spec__" 169 (.none), en P "__annotations__" 170 (.ref 6), en P "__builtins__" 171 (.ref 4), en P "__file__" 173 (st "/claim/cut.py" 172), en P "__cached__" 174 (.none), en P "CRLF" 188 (st "\x0d\n" 187), en P "NL" 190 (st "\n" 189)] 11 }
noncomputable def ob61 (P : Params) : Obj := { cls := .type "dict", data := Data.dict #[en P "__name__" 165 (st "__main__" 164), en P "__doc__" 166 (.none), en P "__package__" 167 (.none), en P "__loader__" 168 (.builtin "__main__.__loader__#opaque"), en P "__spec__" 169 (.none), en P "__annotations__" 170 (.ref 6), en P "__builtins__" 171 (.ref 4), en P "__file__" 173 (st "/claim/cut.py" 172), en P "__cached__" 174 (.none), en P "CRLF" 188 (st "\x0d\n" 187), en P "NL" 190 (st "\n" 189), en P "_QUOPRI_MAP" 1218 (.ref 17)] 12 }
noncomputable def ob62 (P : Params) : Obj := { cls := .type "range", data := Data.fields #[.int 0 192, .int 256 191, .int 1 193] }
noncomputable def ob63 (P : Params) : Obj := { cls := .type "range_iterator", data := Data.fields #[.int 256 0, .int 0 0, .int 1 0] }
noncomputable def ob64 (P : Params) : Obj := ⟨.type "list", none, .seq (tabV hxV 256 0).toArray 256, #[]⟩
noncomputable def ob65 (P : Params) : Obj := { cls := .type "dict", data := Data.dict #[] 2 }
noncomputable def ob66 (P : Params) : Obj := { cls := .type "tuple", data := Data.seq #[] }
noncomputable def ob67 (P : Params) : Obj := { cls := .type "StopIteration", data := Data.fields #[.ref 19, .none, .none, .none, .bool false, .none] }
noncomputable def obH (P : Params) : Obj := { cls := .type "dict", data := Data.dict #[en P "__name__" 165 (st "cpy313.email.quoprimime" 1234), en P "__doc__" 166 (.none), en P "__package__" 167 (.none), en P "__loader__" 168 (.builtin "__main__.__loader__#opaque"), en P "__spec__" 169 (.none), en P "__annotations__" 170 (.ref 6), en P "__builtins__" 171 (.ref 4), en P "__file__" 173 (st "/claim/cut.py" 172), en P "__cached__" 174 (.none), en P "CRLF" 188 (st "\x0d\n" 187), en P "NL" 190 (st "\n" 189), en P "_QUOPRI_MAP" 1218 (.ref 17), en P "_QUOPRI_HEADER_MAP" 1219 (.ref 22), en P "_QUOPRI_BODY_MAP" 1220 (.ref 24), en P "ascii_lowercase" 1222 (st "abcdefghijklmnopqrstuvwxyz" 1221), en P "ascii_uppercase" 1224 (st "ABCDEFGHIJKLMNOPQRSTUVWXYZ" 1223), en P "ascii_letters" 1226 (st "abcdefghijklmnopqrstuvwxyzABCDEFGHIJKLMNOPQRSTUVWXYZ" 1225), en P "digits" 1228 (st "0123456789" 1227), en P "hexdigits" 1233 (st "0123456789abcdefABCDEF" 1232)] 19 }
noncomputable def dE (P : Params) (v : Value) : Obj := { cls := .type "dict", data := Data.dict #[en P "__name__" 165 (st "cpy313.email.quoprimime" 1234), en P "__doc__" 166 (.none), en P "__package__" 167 (.none), en P "__loader__" 168 (.builtin "__main__.__loader__#opaque"), en P "__spec__" 169 (.none), en P "__annotations__" 170 (.ref 6), en P "__builtins__" 171 (.ref 4), en P "__file__" 173 (st "/claim/cut.py" 172), en P "__cached__" 174 (.none), en P "CRLF" 188 (st "\x0d\n" 187), en P "NL" 190 (st "\n" 189), en P "_QUOPRI_MAP" 1218 (.ref 17), en P "_QUOPRI_HEADER_MAP" 1219 (.ref 22), en P "_QUOPRI_BODY_MAP" 1220 (.ref 24), en P "ascii_lowercase" 1222 (st "abcdefghijklmnopqrstuvwxyz" 1221), en P "ascii_uppercase" 1224 (st "ABCDEFGHIJKLMNOPQRSTUVWXYZ" 1223), en P "ascii_letters" 1226 (st "abcdefghijklmnopqrstuvwxyzABCDEFGHIJKLMNOPQRSTUVWXYZ" 1225), en P "digits" 1228 (st "0123456789" 1227), en P "hexdigits" 1233 (st "0123456789abcdefABCDEF" 1232), en P "c" 1244 v] 20 }
noncomputable def ob380 (P : Params) : Obj := dE P (.int 9 1730)
noncomputable def obM (P : Params) : Obj := dE P (.int 57 1441)
noncomputable def obL (P : Params) : Obj := ⟨.type "list", none, .seq (tabV hxV 256 0).toArray 0, #[]⟩
noncomputable def ob361 (P : Params) : Obj := { cls := .type "slice", data := Data.fields #[.none, .none, .none] }
noncomputable def ob378 (P : Params) : Obj := ⟨.type "list", none, .seq (tabV hdV 256 0).toArray 0, #[]⟩
noncomputable def ob363 (P : Params) : Obj := { cls := .type "slice", data := Data.fields #[.none, .none, .none] }
noncomputable def ob381 (P : Params) : Obj := ⟨.type "list", none, .seq (tabV bmV 256 0).toArray 0, #[]⟩
noncomputable def ob367 (P : Params) : Obj := { cls := .type "bytes_iterator", data := Data.fields #[.none, .int 67 0] }
noncomputable def ob368 (P : Params) : Obj := { cls := .type "tuple", data := Data.seq #[] }
noncomputable def ob369 (P : Params) : Obj := { cls := .type "StopIteration", data := Data.fields #[.ref 26, .none, .none, .none, .bool false, .none] }
noncomputable def ob382 (P : Params) : Obj := { cls := .type "bytes_iterator", data := Data.fields #[.none, .int 95 0] }
noncomputable def ob383 (P : Params) : Obj := { cls := .type "tuple", data := Data.seq #[] }
noncomputable def ob384 (P : Params) : Obj := { cls := .type "StopIteration", data := Data.fields #[.ref 29, .none, .none, .none, .bool false, .none] }
noncomputable def ob456 (P : Params) : Obj := { cls := .type "dict", data := Data.dict #[en P "__name__" 165 (st "law_ku0008_01" 1853), en P "__doc__" 166 (.none), en P "__package__" 167 (.none), en P "__loader__" 168 (.builtin "__main__.__loader__#opaque"), en P "__spec__" 169 (.none), en P "__annotations__" 170 (.ref 6), en P "__builtins__" 171 (.ref 4), en P "__file__" 173 (st "/claim/cut.py" 172), en P "__cached__" 174 (.none), en P "CRLF" 188 (st "\x0d\n" 187), en P "NL" 190 (st "\n" 189), en P "_QUOPRI_MAP" 1218 (.ref 17), en P "_QUOPRI_HEADER_MAP" 1219 (.ref 22), en P "_QUOPRI_BODY_MAP" 1220 (.ref 24), en P "ascii_lowercase" 1222 (st "abcdefghijklmnopqrstuvwxyz" 1221), en P "ascii_uppercase" 1224 (st "ABCDEFGHIJKLMNOPQRSTUVWXYZ" 1223), en P "ascii_letters" 1226 (st "abcdefghijklmnopqrstuvwxyzABCDEFGHIJKLMNOPQRSTUVWXYZ" 1225), en P "digits" 1228 (st "0123456789" 1227), en P "hexdigits" 1233 (st "0123456789abcdefABCDEF" 1232), en P "unquote" 1739 (.ref 37), en P "quote" 1746 (.ref 44), en P "_QUOPRI_BODY_ENCODE_MAP" 1747 (.ref 46), en P "body_encode" 1774 (.ref 57), en P "decode" 1787 (.ref 65), en P "floordiv" 1797 (.ref 72), en P "mod" 1805 (.ref 79), en P "mul" 1813 (.ref 86), en P "concat" 1822 (.ref 93), en P "getitem" 1830 (.ref 100), en P "indexOf" 1840 (.ref 107), en P "length_hint" 1852 (.ref 115), en P "_law_code" 1861 (.ref 122), en P "_law_note" 1875 (.ref 129), en P "_law_dealt" 1881 (.ref 134), en P "_law_refused" 1891 (.ref 141), en P "law" 1897 (.ref 146)] 38 }
noncomputable def ob457 (P : Params) : Obj := { cls := .none, data := Data.fields #[.int 17 0, .int 0 0, .ref 36, .int 19 0, .int 0 0, .ref 43, .int 25 0, .int 0 0, .ref 56, .int 63 0, .int 0 0, .ref 64, .int 94 0, .int 0 0, .ref 71, .int 96 0, .int 0 0, .ref 78, .int 98 0, .int 0 0, .ref 85, .int 100 0, .int 0 0, .ref 92, .int 105 0, .int 0 0, .ref 99, .int 107 0, .int 0 0, .ref 106, .int 113 0, .int 0 0, .ref 114, .int 139 0, .int 0 0, .ref 121, .int 143 0, .int 0 0, .ref 128, .int 153 0, .int 0 0, .ref 133, .int 171 0, .int 0 0, .ref 140, .int 176 0, .int 0 0, .ref 145] }
noncomputable def ob398 (P : Params) : Obj := { cls := .type "tuple", data := Data.seq #[] }
noncomputable def ob399 (P : Params) : Obj := { cls := .none, data := Data.fields #[] }
noncomputable def ob400 (P : Params) : Obj := { cls := .type "tuple", data := Data.seq #[st "s" 1736] }
noncomputable def ob401 (P : Params) : Obj := { cls := .type "tuple", data := Data.seq #[] }
noncomputable def ob402 (P : Params) : Obj := { cls := .none, data := Data.func { name := Str.ofString "unquote", qualname := Str.ofString "unquote", params := fparams 14, body := .stmts (fbody 14), scope := fscope 14, globals := 0, closure := [], defaults := .none, kwdefaults := .none } }
noncomputable def ob403 (P : Params) : Obj := { cls := .type "code", data := Data.fields #[st "unquote" 1733, st "unquote" 1734, st "/claim/cut.py" 1735, .int 17 0, .int 1 0, .int 0 0, .int 0 0, .int 3 0, .ref 31, .bool true, .int 181 0, .ref 32, .none, .ref 33, .ref 34, .ref 35, .int 1737 0, .int 17 0, st "/claim/cut.py" 1738] }
noncomputable def ob404 (P : Params) : Obj := { cls := .type "function", data := Data.func { name := Str.ofString "unquote", qualname := Str.ofString "unquote", params := fparams 14, body := .stmts (fbody 14), scope := fscope 14, globals := 3, closure := [], defaults := .none, kwdefaults := .none, pyModule := st "cpy313.email.quoprimime" 1234, code := .ref 36 } }
noncomputable def ob405 (P : Params) : Obj := { cls := .type "tuple", data := Data.seq #[] }
noncomputable def ob406 (P : Params) : Obj := { cls := .none, data := Data.fields #[] }
noncomputable def ob407 (P : Params) : Obj := { cls := .type "tuple", data := Data.seq #[st "c" 1743] }
noncomputable def ob408 (P : Params) : Obj := { cls := .type "tuple", data := Data.seq #[] }
noncomputable def ob409 (P : Params) : Obj := { cls := .none, data := Data.func { name := Str.ofString "quote", qualname := Str.ofString "quote", params := fparams 15, body := .stmts (fbody 15), scope := fscope 15, globals := 0, closure := [], defaults := .none, kwdefaults := .none } }
noncomputable def ob410 (P : Params) : Obj := { cls := .type "code", data := Data.fields #[st "quote" 1740, st "quote" 1741, st "/claim/cut.py" 1742, .int 19 0, .int 1 0, .int 0 0, .int 0 0, .int 3 0, .ref 38, .bool true, .int 181 0, .ref 39, .none, .ref 40, .ref 41, .ref 42, .int 1744 0, .int 19 0, st "/claim/cut.py" 1745] }
noncomputable def ob411 (P : Params) : Obj := { cls := .type "function", data := Data.func { name := Str.ofString "quote", qualname := Str.ofString "quote", params := fparams 15, body := .stmts (fbody 15), scope := fscope 15, globals := 3, closure := [], defaults := .none, kwdefaults := .none, pyModule := st "cpy313.email.quoprimime" 1234, code := .ref 43 } }
noncomputable def ob412 (P : Params) : Obj := { cls := .type "slice", data := Data.fields #[.none, .none, .none] }
noncomputable def ob413 (P : Params) : Obj := ⟨.type "list", none, .seq (tabV beV 256 0).toArray 0, #[]⟩
noncomputable def ob414 (P : Params) : Obj := { cls := .type "bytes_iterator", data := Data.fields #[.none, .int 2 0] }
noncomputable def ob415 (P : Params) : Obj := { cls := .type "tuple", data := Data.seq #[] }
noncomputable def ob416 (P : Params) : Obj := { cls := .type "StopIteration", data := Data.fields #[.ref 48, .none, .none, .none, .bool false, .none] }
noncomputable def ob417 (P : Params) : Obj := { cls := .type "tuple", data := Data.seq #[.int 76 1755, st "\n" 189] }
noncomputable def ob418 (P : Params) : Obj := { cls := .type "tuple", data := Data.seq #[] }
noncomputable def ob419 (P : Params) : Obj := { cls := .none, data := Data.fields #[] }
noncomputable def ob420 (P : Params) : Obj := { cls := .type "tuple", data := Data.seq #[st "body" 1759, st "maxlinelen" 1760, st "eol" 1761, st "soft_break" 1762, st "maxlinelen1" 1763, st "encoded_body" 1764, st "append" 1765, st "line" 1766, st "start" 1767, st "laststart" 1768, st "stop" 1769, st "room" 1770, st "q" 1771] }
noncomputable def ob421 (P : Params) : Obj := { cls := .type "tuple", data := Data.seq #[] }
noncomputable def ob422 (P : Params) : Obj := { cls := .none, data := Data.func { name := Str.ofString "body_encode", qualname := Str.ofString "body_encode", params := fparams 19, body := .stmts (fbody 19), scope := fscope 19, globals := 0, closure := [], defaults := .none, kwdefaults := .none } }
noncomputable def ob423 (P : Params) : Obj := { cls := .type "code", data := Data.fields #[st "body_encode" 1756, st "body_encode" 1757, st "/claim/cut.py" 1758, .int 25 0, .int 3 0, .int 0 0, .int 0 0, .int 3 0, .ref 51, .bool true, .int 181 0, .ref 52, .none, .ref 53, .ref 54, .ref 55, .int 1772 0, .int 25 0, st "/claim/cut.py" 1773] }
noncomputable def ob424 (P : Params) : Obj := { cls := .type "function", data := Data.func { name := Str.ofString "body_encode", qualname := Str.ofString "body_encode", params := fparams 19, body := .stmts (fbody 19), scope := fscope 19, globals := 3, closure := [], defaults := .ref 50, kwdefaults := .none, pyModule := st "cpy313.email.quoprimime" 1234, code := .ref 56 } }
noncomputable def ob425 (P : Params) : Obj := { cls := .type "tuple", data := Data.seq #[st "\n" 189] }
noncomputable def ob426 (P : Params) : Obj := { cls := .type "tuple", data := Data.seq #[] }
noncomputable def ob427 (P : Params) : Obj := { cls := .none, data := Data.fields #[] }
noncomputable def ob428 (P : Params) : Obj := { cls := .type "tuple", data := Data.seq #[st "encoded" 1778, st "eol" 1779, st "decoded" 1780, st "line" 1781, st "i" 1782, st "n" 1783, st "c" 1784] }
noncomputable def ob429 (P : Params) : Obj := { cls := .type "tuple", data := Data.seq #[] }
noncomputable def ob430 (P : Params) : Obj := { cls := .none, data := Data.func { name := Str.ofString "decode", qualname := Str.ofString "decode", params := fparams 20, body := .stmts (fbody 20), scope := fscope 20, globals := 0, closure := [], defaults := .none, kwdefaults := .none } }
noncomputable def ob431 (P : Params) : Obj := { cls := .type "code", data := Data.fields #[st "decode" 1775, st "decode" 1776, st "/claim/cut.py" 1777, .int 63 0, .int 2 0, .int 0 0, .int 0 0, .int 3 0, .ref 59, .bool true, .int 181 0, .ref 60, .none, .ref 61, .ref 62, .ref 63, .int 1785 0, .int 63 0, st "/claim/cut.py" 1786] }
noncomputable def ob432 (P : Params) : Obj := { cls := .type "function", data := Data.func { name := Str.ofString "decode", qualname := Str.ofString "decode", params := fparams 20, body := .stmts (fbody 20), scope := fscope 20, globals := 3, closure := [], defaults := .ref 58, kwdefaults := .none, pyModule := st "cpy313.email.quoprimime" 1234, code := .ref 64 } }
noncomputable def ob433 (P : Params) : Obj := { cls := .type "tuple", data := Data.seq #[] }
noncomputable def ob434 (P : Params) : Obj := { cls := .none, data := Data.fields #[] }
noncomputable def ob435 (P : Params) : Obj := { cls := .type "tuple", data := Data.seq #[st "a" 1793, st "b" 1794] }
noncomputable def ob436 (P : Params) : Obj := { cls := .type "tuple", data := Data.seq #[] }
noncomputable def ob437 (P : Params) : Obj := { cls := .none, data := Data.func { name := Str.ofString "floordiv", qualname := Str.ofString "floordiv", params := fparams 22, body := .stmts (fbody 22), scope := fscope 22, globals := 0, closure := [], defaults := .none, kwdefaults := .none } }
noncomputable def ob438 (P : Params) : Obj := { cls := .type "code", data := Data.fields #[st "floordiv" 1790, st "floordiv" 1791, st "/claim/cut.py" 1792, .int 94 0, .int 2 0, .int 0 0, .int 0 0, .int 3 0, .ref 66, .bool true, .int 181 0, .ref 67, .none, .ref 68, .ref 69, .ref 70, .int 1795 0, .int 94 0, st "/claim/cut.py" 1796] }
noncomputable def ob439 (P : Params) : Obj := { cls := .type "function", data := Data.func { name := Str.ofString "floordiv", qualname := Str.ofString "floordiv", params := fparams 22, body := .stmts (fbody 22), scope := fscope 22, globals := 3, closure := [], defaults := .none, kwdefaults := .none, pyModule := st "cpy313.operator" 1788, code := .ref 71 } }
noncomputable def ob440 (P : Params) : Obj := { cls := .type "tuple", data := Data.seq #[] }
noncomputable def ob441 (P : Params) : Obj := { cls := .none, data := Data.fields #[] }
noncomputable def ob442 (P : Params) : Obj := { cls := .type "tuple", data := Data.seq #[st "a" 1801, st "b" 1802] }
noncomputable def ob443 (P : Params) : Obj := { cls := .type "tuple", data := Data.seq #[] }
noncomputable def ob444 (P : Params) : Obj := { cls := .none, data := Data.func { name := Str.ofString "mod", qualname := Str.ofString "mod", params := fparams 23, body := .stmts (fbody 23), scope := fscope 23, globals := 0, closure := [], defaults := .none, kwdefaults := .none } }
noncomputable def ob445 (P : Params) : Obj := { cls := .type "code", data := Data.fields #[st "mod" 1798, st "mod" 1799, st "/claim/cut.py" 1800, .int 96 0, .int 2 0, .int 0 0, .int 0 0, .int 3 0, .ref 73, .bool true, .int 181 0, .ref 74, .none, .ref 75, .ref 76, .ref 77, .int 1803 0, .int 96 0, st "/claim/cut.py" 1804] }
noncomputable def ob446 (P : Params) : Obj := { cls := .type "function", data := Data.func { name := Str.ofString "mod", qualname := Str.ofString "mod", params := fparams 23, body := .stmts (fbody 23), scope := fscope 23, globals := 3, closure := [], defaults := .none, kwdefaults := .none, pyModule := st "cpy313.operator" 1788, code := .ref 78 } }
noncomputable def ob447 (P : Params) : Obj := { cls := .type "tuple", data := Data.seq #[] }
noncomputable def ob448 (P : Params) : Obj := { cls := .none, data := Data.fields #[] }
noncomputable def ob449 (P : Params) : Obj := { cls := .type "tuple", data := Data.seq #[st "a" 1809, st "b" 1810] }
noncomputable def ob450 (P : Params) : Obj := { cls := .type "tuple", data := Data.seq #[] }
noncomputable def ob451 (P : Params) : Obj := { cls := .none, data := Data.func { name := Str.ofString "mul", qualname := Str.ofString "mul", params := fparams 24, body := .stmts (fbody 24), scope := fscope 24, globals := 0, closure := [], defaults := .none, kwdefaults := .none } }
noncomputable def ob452 (P : Params) : Obj := { cls := .type "code", data := Data.fields #[st "mul" 1806, st "mul" 1807, st "/claim/cut.py" 1808, .int 98 0, .int 2 0, .int 0 0, .int 0 0, .int 3 0, .ref 80, .bool true, .int 181 0, .ref 81, .none, .ref 82, .ref 83, .ref 84, .int 1811 0, .int 98 0, st "/claim/cut.py" 1812] }
noncomputable def ob453 (P : Params) : Obj := { cls := .type "function", data := Data.func { name := Str.ofString "mul", qualname := Str.ofString "mul", params := fparams 24, body := .stmts (fbody 24), scope := fscope 24, globals := 3, closure := [], defaults := .none, kwdefaults := .none, pyModule := st "cpy313.operator" 1788, code := .ref 85 } }
noncomputable def ob458 (P : Params) : Obj := { cls := .type "tuple", data := Data.seq #[] }
noncomputable def ob459 (P : Params) : Obj := { cls := .none, data := Data.fields #[] }
noncomputable def ob460 (P : Params) : Obj := { cls := .type "tuple", data := Data.seq #[st "a" 1817, st "b" 1818, st "msg" 1819] }
noncomputable def ob461 (P : Params) : Obj := { cls := .type "tuple", data := Data.seq #[] }
noncomputable def ob462 (P : Params) : Obj := { cls := .none, data := Data.func { name := Str.ofString "concat", qualname := Str.ofString "concat", params := fparams 25, body := .stmts (fbody 25), scope := fscope 25, globals := 0, closure := [], defaults := .none, kwdefaults := .none } }
noncomputable def ob463 (P : Params) : Obj := { cls := .type "code", data := Data.fields #[st "concat" 1814, st "concat" 1815, st "/claim/cut.py" 1816, .int 100 0, .int 2 0, .int 0 0, .int 0 0, .int 3 0, .ref 87, .bool true, .int 181 0, .ref 88, .none, .ref 89, .ref 90, .ref 91, .int 1820 0, .int 100 0, st "/claim/cut.py" 1821] }
noncomputable def ob464 (P : Params) : Obj := { cls := .type "function", data := Data.func { name := Str.ofString "concat", qualname := Str.ofString "concat", params := fparams 25, body := .stmts (fbody 25), scope := fscope 25, globals := 3, closure := [], defaults := .none, kwdefaults := .none, pyModule := st "cpy313.operator" 1788, code := .ref 92 } }
noncomputable def ob465 (P : Params) : Obj := { cls := .type "tuple", data := Data.seq #[] }
noncomputable def ob466 (P : Params) : Obj := { cls := .none, data := Data.fields #[] }
noncomputable def ob467 (P : Params) : Obj := { cls := .type "tuple", data := Data.seq #[st "a" 1826, st "b" 1827] }
noncomputable def ob468 (P : Params) : Obj := { cls := .type "tuple", data := Data.seq #[] }
noncomputable def ob469 (P : Params) : Obj := { cls := .none, data := Data.func { name := Str.ofString "getitem", qualname := Str.ofString "getitem", params := fparams 26, body := .stmts (fbody 26), scope := fscope 26, globals := 0, closure := [], defaults := .none, kwdefaults := .none } }
noncomputable def ob470 (P : Params) : Obj := { cls := .type "code", data := Data.fields #[st "getitem" 1823, st "getitem" 1824, st "/claim/cut.py" 1825, .int 105 0, .int 2 0, .int 0 0, .int 0 0, .int 3 0, .ref 94, .bool true, .int 181 0, .ref 95, .none, .ref 96, .ref 97, .ref 98, .int 1828 0, .int 105 0, st "/claim/cut.py" 1829] }
noncomputable def ob471 (P : Params) : Obj := { cls := .type "function", data := Data.func { name := Str.ofString "getitem", qualname := Str.ofString "getitem", params := fparams 26, body := .stmts (fbody 26), scope := fscope 26, globals := 3, closure := [], defaults := .none, kwdefaults := .none, pyModule := st "cpy313.operator" 1788, code := .ref 99 } }
noncomputable def ob472 (P : Params) : Obj := { cls := .type "tuple", data := Data.seq #[] }
noncomputable def ob473 (P : Params) : Obj := { cls := .none, data := Data.fields #[] }
noncomputable def ob474 (P : Params) : Obj := { cls := .type "tuple", data := Data.seq #[st "a" 1834, st "b" 1835, st "i" 1836, st "j" 1837] }
noncomputable def ob475 (P : Params) : Obj := { cls := .type "tuple", data := Data.seq #[] }
noncomputable def ob476 (P : Params) : Obj := { cls := .none, data := Data.func { name := Str.ofString "indexOf", qualname := Str.ofString "indexOf", params := fparams 27, body := .stmts (fbody 27), scope := fscope 27, globals := 0, closure := [], defaults := .none, kwdefaults := .none } }
noncomputable def ob477 (P : Params) : Obj := { cls := .type "code", data := Data.fields #[st "indexOf" 1831, st "indexOf" 1832, st "/claim/cut.py" 1833, .int 107 0, .int 2 0, .int 0 0, .int 0 0, .int 3 0, .ref 101, .bool true, .int 181 0, .ref 102, .none, .ref 103, .ref 104, .ref 105, .int 1838 0, .int 107 0, st "/claim/cut.py" 1839] }
noncomputable def ob478 (P : Params) : Obj := { cls := .type "function", data := Data.func { name := Str.ofString "indexOf", qualname := Str.ofString "indexOf", params := fparams 27, body := .stmts (fbody 27), scope := fscope 27, globals := 3, closure := [], defaults := .none, kwdefaults := .none, pyModule := st "cpy313.operator" 1788, code := .ref 106 } }
noncomputable def ob479 (P : Params) : Obj := { cls := .type "tuple", data := Data.seq #[.int 0 1841] }
noncomputable def ob480 (P : Params) : Obj := { cls := .type "tuple", data := Data.seq #[] }
noncomputable def ob481 (P : Params) : Obj := { cls := .none, data := Data.fields #[] }
noncomputable def ob482 (P : Params) : Obj := { cls := .type "tuple", data := Data.seq #[st "obj" 1845, st "default" 1846, st "msg" 1847, st "hint" 1848, st "val" 1849] }
noncomputable def ob483 (P : Params) : Obj := { cls := .type "tuple", data := Data.seq #[] }
noncomputable def ob484 (P : Params) : Obj := { cls := .none, data := Data.func { name := Str.ofString "length_hint", qualname := Str.ofString "length_hint", params := fparams 28, body := .stmts (fbody 28), scope := fscope 28, globals := 0, closure := [], defaults := .none, kwdefaults := .none } }
noncomputable def ob485 (P : Params) : Obj := { cls := .type "code", data := Data.fields #[st "length_hint" 1842, st "length_hint" 1843, st "/claim/cut.py" 1844, .int 113 0, .int 2 0, .int 0 0, .int 0 0, .int 3 0, .ref 109, .bool true, .int 181 0, .ref 110, .none, .ref 111, .ref 112, .ref 113, .int 1850 0, .int 113 0, st "/claim/cut.py" 1851] }
noncomputable def ob486 (P : Params) : Obj := { cls := .type "function", data := Data.func { name := Str.ofString "length_hint", qualname := Str.ofString "length_hint", params := fparams 28, body := .stmts (fbody 28), scope := fscope 28, globals := 3, closure := [], defaults := .ref 108, kwdefaults := .none, pyModule := st "cpy313.operator" 1788, code := .ref 114 } }
noncomputable def ob487 (P : Params) : Obj := { cls := .type "tuple", data := Data.seq #[] }
noncomputable def ob488 (P : Params) : Obj := { cls := .none, data := Data.fields #[] }
noncomputable def ob489 (P : Params) : Obj := { cls := .type "tuple", data := Data.seq #[st "sign" 1858] }
noncomputable def ob490 (P : Params) : Obj := { cls := .type "tuple", data := Data.seq #[] }
noncomputable def ob491 (P : Params) : Obj := { cls := .none, data := Data.func { name := Str.ofString "_law_code", qualname := Str.ofString "_law_code", params := fparams 30, body := .stmts (fbody 30), scope := fscope 30, globals := 0, closure := [], defaults := .none, kwdefaults := .none } }
noncomputable def ob492 (P : Params) : Obj := { cls := .type "code", data := Data.fields #[st "_law_code" 1855, st "_law_code" 1856, st "/claim/cut.py" 1857, .int 139 0, .int 1 0, .int 0 0, .int 0 0, .int 3 0, .ref 116, .bool true, .int 181 0, .ref 117, .none, .ref 118, .ref 119, .ref 120, .int 1859 0, .int 139 0, st "/claim/cut.py" 1860] }
noncomputable def ob493 (P : Params) : Obj := { cls := .type "function", data := Data.func { name := Str.ofString "_law_code", qualname := Str.ofString "_law_code", params := fparams 30, body := .stmts (fbody 30), scope := fscope 30, globals := 3, closure := [], defaults := .none, kwdefaults := .none, pyModule := st "law_ku0008_01" 1853, code := .ref 121 } }
noncomputable def ob494 (P : Params) : Obj := { cls := .type "tuple", data := Data.seq #[] }
noncomputable def ob495 (P : Params) : Obj := { cls := .none, data := Data.fields #[] }
noncomputable def ob496 (P : Params) : Obj := { cls := .type "tuple", data := Data.seq #[st "count" 1865, st "last" 1866, st "room" 1867, st "end" 1868, st "breaks" 1869, st "left" 1870, st "row" 1871, st "code" 1872] }
noncomputable def ob497 (P : Params) : Obj := { cls := .type "tuple", data := Data.seq #[] }
noncomputable def ob498 (P : Params) : Obj := { cls := .none, data := Data.func { name := Str.ofString "_law_note", qualname := Str.ofString "_law_note", params := fparams 31, body := .stmts (fbody 31), scope := fscope 31, globals := 0, closure := [], defaults := .none, kwdefaults := .none } }
noncomputable def ob499 (P : Params) : Obj := { cls := .type "code", data := Data.fields #[st "_law_note" 1862, st "_law_note" 1863, st "/claim/cut.py" 1864, .int 143 0, .int 4 0, .int 0 0, .int 0 0, .int 3 0, .ref 123, .bool true, .int 181 0, .ref 124, .none, .ref 125, .ref 126, .ref 127, .int 1873 0, .int 143 0, st "/claim/cut.py" 1874] }
noncomputable def ob500 (P : Params) : Obj := { cls := .type "function", data := Data.func { name := Str.ofString "_law_note", qualname := Str.ofString "_law_note", params := fparams 31, body := .stmts (fbody 31), scope := fscope 31, globals := 3, closure := [], defaults := .none, kwdefaults := .none, pyModule := st "law_ku0008_01" 1853, code := .ref 128 } }
noncomputable def ob501 (P : Params) : Obj := { cls := .type "tuple", data := Data.seq #[] }
noncomputable def ob502 (P : Params) : Obj := { cls := .none, data := Data.fields #[] }
noncomputable def ob503 (P : Params) : Obj := { cls := .none, data := Data.func { name := Str.ofString "_law_dealt", qualname := Str.ofString "_law_dealt", params := fparams 32, body := .stmts (fbody 32), scope := fscope 32, globals := 0, closure := [], defaults := .none, kwdefaults := .none } }
noncomputable def ob504 (P : Params) : Obj := { cls := .type "code", data := Data.fields #[st "_law_dealt" 1876, st "_law_dealt" 1877, st "/claim/cut.py" 1878, .int 153 0, .int 7 0, .int 0 0, .int 0 0, .int 3 0, .ref 130, .bool true, .int 181 0, .ref 131, .none, .none, .none, .ref 132, .int 1879 0, .int 153 0, st "/claim/cut.py" 1880] }
noncomputable def ob505 (P : Params) : Obj := { cls := .type "function", data := Data.func { name := Str.ofString "_law_dealt", qualname := Str.ofString "_law_dealt", params := fparams 32, body := .stmts (fbody 32), scope := fscope 32, globals := 3, closure := [], defaults := .none, kwdefaults := .none, pyModule := st "law_ku0008_01" 1853, code := .ref 133 } }
noncomputable def ob506 (P : Params) : Obj := { cls := .type "tuple", data := Data.seq #[] }
noncomputable def ob507 (P : Params) : Obj := { cls := .none, data := Data.fields #[] }
noncomputable def ob508 (P : Params) : Obj := { cls := .type "tuple", data := Data.seq #[st "text" 1885, st "room" 1886, st "end" 1887, st "error" 1888] }
noncomputable def ob509 (P : Params) : Obj := { cls := .type "tuple", data := Data.seq #[] }
noncomputable def ob510 (P : Params) : Obj := { cls := .none, data := Data.func { name := Str.ofString "_law_refused", qualname := Str.ofString "_law_refused", params := fparams 33, body := .stmts (fbody 33), scope := fscope 33, globals := 0, closure := [], defaults := .none, kwdefaults := .none } }
noncomputable def ob511 (P : Params) : Obj := { cls := .type "code", data := Data.fields #[st "_law_refused" 1882, st "_law_refused" 1883, st "/claim/cut.py" 1884, .int 171 0, .int 3 0, .int 0 0, .int 0 0, .int 3 0, .ref 135, .bool true, .int 181 0, .ref 136, .none, .ref 137, .ref 138, .ref 139, .int 1889 0, .int 171 0, st "/claim/cut.py" 1890] }
noncomputable def ob512 (P : Params) : Obj := { cls := .type "function", data := Data.func { name := Str.ofString "_law_refused", qualname := Str.ofString "_law_refused", params := fparams 33, body := .stmts (fbody 33), scope := fscope 33, globals := 3, closure := [], defaults := .none, kwdefaults := .none, pyModule := st "law_ku0008_01" 1853, code := .ref 140 } }
noncomputable def ob513 (P : Params) : Obj := { cls := .type "tuple", data := Data.seq #[] }
noncomputable def ob514 (P : Params) : Obj := { cls := .none, data := Data.fields #[] }
noncomputable def ob515 (P : Params) : Obj := { cls := .none, data := Data.func { name := Str.ofString "law", qualname := Str.ofString "law", params := fparams 34, body := .stmts (fbody 34), scope := fscope 34, globals := 0, closure := [], defaults := .none, kwdefaults := .none } }
noncomputable def ob516 (P : Params) : Obj := { cls := .type "code", data := Data.fields #[st "law" 1892, st "law" 1893, st "/claim/cut.py" 1894, .int 176 0, .int 1 0, .int 0 0, .int 0 0, .int 3 0, .ref 142, .bool true, .int 181 0, .ref 143, .none, .none, .none, .ref 144, .int 1895 0, .int 176 0, st "/claim/cut.py" 1896] }
noncomputable def ob517 (P : Params) : Obj := { cls := .type "function", data := Data.func { name := Str.ofString "law", qualname := Str.ofString "law", params := fparams 34, body := .stmts (fbody 34), scope := fscope 34, globals := 3, closure := [], defaults := .none, kwdefaults := .none, pyModule := st "law_ku0008_01" 1853, code := .ref 145 } }
noncomputable def l15 (P : Params) : List Obj := [boot_o_0 P, boot_o_1 P, boot_o_2 P, boot_o_3 P, boot_o_4 P, boot_o_5 P, boot_o_6 P, boot_o_7 P, boot_o_8 P, boot_o_9 P, boot_o_10 P, ob53 P, ob54 P, ob55 P, ob56 P]
/-! the heap between two turns of the text's comprehension -/
noncomputable def itJ (j : Nat) : Obj := { cls := .type "range_iterator", data := Data.fields #[.int (Int.ofNat j) 0, .int (Int.ofNat (256 - j)) 0, .int 1 0] }
noncomputable def lsJ (j : Nat) : Obj := ⟨.type "list", none, .seq (tabV hxV j 0).toArray j, #[]⟩
noncomputable def dcJ (j : Nat) (P : Params) : Obj := match j with
  | 0 => { cls := .type "dict", data := Data.dict #[] 0 }
  | i + 1 => { cls := .type "dict", data := Data.dict #[en P "c" 195 (.int (Int.ofNat i) (194 + 4 * i))] 1 }
noncomputable def l19 (j : Nat) (P : Params) : List Obj := [boot_o_0 P, boot_o_1 P, boot_o_2 P, obK P, boot_o_4 P, boot_o_5 P, boot_o_6 P, boot_o_7 P, boot_o_8 P, boot_o_9 P, boot_o_10 P, ob53 P, ob54 P, ob55 P, ob56 P, ob62 P, itJ j, lsJ j, dcJ j P]
noncomputable def l21 (P : Params) : List Obj := [boot_o_0 P, boot_o_1 P, boot_o_2 P, ob61 P, boot_o_4 P, boot_o_5 P, boot_o_6 P, boot_o_7 P, boot_o_8 P, boot_o_9 P, boot_o_10 P, ob53 P, ob54 P, ob55 P, ob56 P, ob62 P, ob63 P, ob64 P, ob65 P, ob66 P, ob67 P]
noncomputable def l25 (P : Params) : List Obj := [boot_o_0 P, boot_o_1 P, boot_o_2 P, obH P, boot_o_4 P, boot_o_5 P, boot_o_6 P, boot_o_7 P, boot_o_8 P, boot_o_9 P, boot_o_10 P, ob53 P, ob54 P, ob55 P, ob56 P, ob62 P, ob63 P, ob64 P, ob65 P, ob66 P, ob67 P, ob361 P, obL P, ob363 P, obL P]
noncomputable def l28 (P : Params) : List Obj := [boot_o_0 P, boot_o_1 P, boot_o_2 P, obM P, boot_o_4 P, boot_o_5 P, boot_o_6 P, boot_o_7 P, boot_o_8 P, boot_o_9 P, boot_o_10 P, ob53 P, ob54 P, ob55 P, ob56 P, ob62 P, ob63 P, ob64 P, ob65 P, ob66 P, ob67 P, ob361 P, ob378 P, ob363 P, obL P, ob367 P, ob368 P, ob369 P]
noncomputable def l31 (P : Params) : List Obj := [boot_o_0 P, boot_o_1 P, boot_o_2 P, ob380 P, boot_o_4 P, boot_o_5 P, boot_o_6 P, boot_o_7 P, boot_o_8 P, boot_o_9 P, boot_o_10 P, ob53 P, ob54 P, ob55 P, ob56 P, ob62 P, ob63 P, ob64 P, ob65 P, ob66 P, ob67 P, ob361 P, ob378 P, ob363 P, ob381 P, ob367 P, ob368 P, ob369 P, ob382 P, ob383 P, ob384 P]
noncomputable def l147 (P : Params) : List Obj := [boot_o_0 P, boot_o_1 P, boot_o_2 P, ob456 P, boot_o_4 P, boot_o_5 P, boot_o_6 P, boot_o_7 P, boot_o_8 P, boot_o_9 P, boot_o_10 P, ob53 P, ob457 P, ob55 P, ob56 P, ob62 P, ob63 P, ob64 P, ob65 P, ob66 P, ob67 P, ob361 P, ob378 P, ob363 P, ob381 P, ob367 P, ob368 P, ob369 P, ob382 P, ob383 P, ob384 P, ob398 P, ob399 P, ob400 P, ob401 P, ob402 P, ob403 P, ob404 P, ob405 P, ob406 P, ob407 P, ob408 P, ob409 P, ob410 P, ob411 P, ob412 P, ob413 P, ob414 P, ob415 P, ob416 P, ob417 P, ob418 P, ob419 P, ob420 P, ob421 P, ob422 P, ob423 P, ob424 P, ob425 P, ob426 P, ob427 P, ob428 P, ob429 P, ob430 P, ob431 P, ob432 P, ob433 P, ob434 P, ob435 P, ob436 P, ob437 P, ob438 P, ob439 P, ob440 P, ob441 P, ob442 P, ob443 P, ob444 P, ob445 P, ob446 P, ob447 P, ob448 P, ob449 P, ob450 P, ob451 P, ob452 P, ob453 P, ob458 P, ob459 P, ob460 P, ob461 P, ob462 P, ob463 P, ob464 P, ob465 P, ob466 P, ob467 P, ob468 P, ob469 P, ob470 P, ob471 P, ob472 P, ob473 P, ob474 P, ob475 P, ob476 P, ob477 P, ob478 P, ob479 P, ob480 P, ob481 P, ob482 P, ob483 P, ob484 P, ob485 P, ob486 P, ob487 P, ob488 P, ob489 P, ob490 P, ob491 P, ob492 P, ob493 P, ob494 P, ob495 P, ob496 P, ob497 P, ob498 P, ob499 P, ob500 P, ob501 P, ob502 P, ob503 P, ob504 P, ob505 P, ob506 P, ob507 P, ob508 P, ob509 P, ob510 P, ob511 P, ob512 P, ob513 P, ob514 P, ob515 P, ob516 P, ob517 P]
noncomputable def fragA : List Addr := [2, 3, 6, 17, 22, 24, 31, 33, 34, 36, 37, 38, 40, 41, 43, 44, 46, 50, 51, 53, 54, 56, 57, 58, 59, 61, 62, 64, 65, 66, 68, 69, 71, 72, 73, 75, 76, 78, 79, 80, 82, 83, 85, 86, 87, 89, 90, 92, 93, 94, 96, 97, 99, 100, 101, 103, 104, 106, 107, 108, 109, 111, 112, 114, 115, 116, 118, 119, 121, 122, 123, 125, 126, 128, 129, 130, 133, 134, 135, 137, 138, 140, 141, 142, 145, 146]
noncomputable def frag (P : Params) : Frag := [(2, boot_o_2 P), (3, ob456 P), (6, boot_o_6 P), (17, ob64 P), (22, ob378 P), (24, ob381 P), (31, ob398 P), (33, ob400 P), (34, ob401 P), (36, ob403 P), (37, ob404 P), (38, ob405 P), (40, ob407 P), (41, ob408 P), (43, ob410 P), (44, ob411 P), (46, ob413 P), (50, ob417 P), (51, ob418 P), (53, ob420 P), (54, ob421 P), (56, ob423 P), (57, ob424 P), (58, ob425 P), (59, ob426 P), (61, ob428 P), (62, ob429 P), (64, ob431 P), (65, ob432 P), (66, ob433 P), (68, ob435 P), (69, ob436 P), (71, ob438 P), (72, ob439 P), (73, ob440 P), (75, ob442 P), (76, ob443 P), (78, ob445 P), (79, ob446 P), (80, ob447 P), (82, ob449 P), (83, ob450 P), (85, ob452 P), (86, ob453 P), (87, ob458 P), (89, ob460 P), (90, ob461 P), (92, ob463 P), (93, ob464 P), (94, ob465 P), (96, ob467 P), (97, ob468 P), (99, ob470 P), (100, ob471 P), (101, ob472 P), (103, ob474 P), (104, ob475 P), (106, ob477 P), (107, ob478 P), (108, ob479 P), (109, ob480 P), (111, ob482 P), (112, ob483 P), (114, ob485 P), (115, ob486 P), (116, ob487 P), (118, ob489 P), (119, ob490 P), (121, ob492 P), (122, ob493 P), (123, ob494 P), (125, ob496 P), (126, ob497 P), (128, ob499 P), (129, ob500 P), (130, ob501 P), (133, ob504 P), (134, ob505 P), (135, ob506 P), (137, ob508 P), (138, ob509 P), (140, ob511 P), (141, ob512 P), (142, ob513 P), (145, ob516 P), (146, ob517 P)]
noncomputable def nthO : List Obj → Nat → Option Obj
  | [], _ => none
  | o :: _, 0 => some o
  | _ :: r, n + 1 => nthO r n
noncomputable def btGo (l : List Obj) : Nat → Nat → Nat → BT
  | 0, _, _ => .nil
  | f + 1, a, b => match nthO l b with
    | some o => .node o (btGo l f (2 * a) (a + b)) (btGo l f (2 * a) (2 * a + b))
    | none => .nil
noncomputable def bt (l : List Obj) : BT := btGo l 9 1 0
noncomputable def pE : Program := PySem.Challenge.rw_ku0008_01.row.toRowW.prog
noncomputable def bd : List Stmt := behindTheImports pE
noncomputable def q0 : Pos := { line := 0, col := 0, endLine := 0, endCol := 0 }
noncomputable def eV : Env := { scope := pE.main.scope, locals := mainNs, globals := mainNs, cells := [], code := .ref 13, frame := some 14 }
noncomputable def cE : Code := .body bd eV
noncomputable def sA : List Stmt := bd.take 3
noncomputable def sE : List Stmt := (bd.drop 3).take 8
noncomputable def sB : List Stmt := (bd.drop 11).take 2
noncomputable def sD : List Stmt := (bd.drop 13).take 1
noncomputable def sC : List Stmt := bd.drop 14
noncomputable def pA : Pos := { line := 3, col := 0, endLine := 3, endCol := 11 }
noncomputable def pE1 : Pos := { line := 11, col := 0, endLine := 11, endCol := 8 }
noncomputable def pM : Pos := { line := 14, col := 0, endLine := 14, endCol := 28 }
noncomputable def pB : Pos := { line := 15, col := 9, endLine := 15, endCol := 110 }
noncomputable def pC : Pos := { line := 176, col := 0, endLine := 205, endCol := 109 }
noncomputable def H0 (P : Params) : Heap := boot_heap P
noncomputable def H1 (P : Params) : Heap := { objs := ⟨l147 P⟩ }
noncomputable def s15 (w : World) (os : OsState) : SharedT := { tree := bt (l15 w.params), n := 15, life := {}, gens := #[], drawn := {}, toks := 187, os := os }
noncomputable def sJ (j : Nat) (w : World) (os : OsState) : SharedT := { tree := bt (l19 j w.params), n := 19, life := {}, gens := #[], drawn := {}, toks := 194 + 4 * j, os := os }
noncomputable def s21 (w : World) (os : OsState) : SharedT := { tree := bt (l21 w.params), n := 21, life := {}, gens := #[], drawn := {}, toks := 1219, os := os }
noncomputable def s25 (w : World) (os : OsState) : SharedT := { tree := bt (l25 w.params), n := 25, life := {}, gens := #[], drawn := {}, toks := 1236, os := os }
noncomputable def s28 (w : World) (os : OsState) : SharedT := { tree := bt (l28 w.params), n := 28, life := {}, gens := #[], drawn := {}, toks := 1447, os := os }
noncomputable def s31 (w : World) (os : OsState) : SharedT := { tree := bt (l31 w.params), n := 31, life := {}, gens := #[], drawn := {}, toks := 1733, os := os }
noncomputable def s147 (w : World) (os : OsState) : SharedT := { tree := bt (l147 w.params), n := 147, life := {}, gens := #[], drawn := {}, toks := 1898, os := os }
section
variable {tb : String → Option Builtin} {p : Program} {w : World} {n₀ : Nat} {ann : Option Value} {b : Nat}
noncomputable def thenT (tb : String → Option Builtin) (p : Program) (w : World) (n₀ : Nat) (ann : Option Value) (b N : Nat) (m : Option (SharedT × Thread)) : Option (Flow × SharedT × Code × Pos) :=
  match m with | some (s, t) => segRunT tb p w n₀ ann b N s t | none => none
theorem segT_by {n N : Nat} {s s' : SharedT} {t : Thread} {m : Option (SharedT × Thread)} {f : Flow} {c : Code} {q : Pos} (h : segGoT tb p w n₀ ann b n s t = m)
    (h2 : thenT tb p w n₀ ann b N m = some (f, s', c, q)) : segRun tb p w n₀ ann b (n + N) s.abs t = some (f, s'.abs, c, q) := by
  cases m with
  | none => cases h2
  | some x => exact seg_go (segGo_of h) (segRun_of h2)
end
theorem h_body : bd = sA ++ (sE ++ (sB ++ (sD ++ (sC ++ [])))) := by kernel_rfl
theorem h_pre : ∀ w : World, (fun os => topGo treeTable pE w 11 (some (.ref 6)) 12 ⟨H0 w.params, #[], {}, 181, os⟩ (topStub pE)) = fun os =>
    some (⟨{ objs := ⟨l15 w.params⟩ }, #[], {}, 187, os⟩, ⟨denote treeTable cE, cE, q0, [topFrame q0]⟩) := fun w => by
  rw [PySem.W.Fast.te15667345088766844465, PySem.W.Fast.te14364793385576792824, PySem.W.Fast.te11892475500146522536]; kernel_rfl
theorem h_block : ∀ w : World, (fun os => segRun treeTable pE w 11 (some (.ref 6)) 1 1 ⟨{ objs := ⟨l15 w.params⟩ }, #[], {}, 187, os⟩ (blockOf bd eV cE q0 [topFrame q0])) = fun os =>
    some (.next, (s15 w os).abs, cE, q0) := fun w => by
  rw [PySem.W.Fast.te14374325043358763698, PySem.W.Fast.te14364793385576792824]; kernel_rfl
noncomputable def PA (w : World) : Prop := ∀ os, ∃ n j, n + j = 10000 ∧ segRun treeTable pE w 11 (some (.ref 6)) 1 n (s15 w os).abs (piecesOf sA eV cE q0 [topFrame q0]) = some (.next, (s21 w os).abs, cE, pA)
noncomputable def PB (w : World) : Prop := ∀ os, segRun treeTable pE w 11 (some (.ref 6)) 1 (47 + 3353) (s25 w os).abs (piecesOf sB eV cE pE1 [topFrame q0]) = some (.next, (s28 w os).abs, cE, pM)
noncomputable def PD (w : World) : Prop := ∀ os, segRun treeTable pE w 11 (some (.ref 6)) 1 (12 + 4688) (s28 w os).abs (piecesOf sD eV cE pM [topFrame q0]) = some (.next, (s31 w os).abs, cE, pB)
noncomputable def PC (w : World) : Prop := ∀ os, segRun treeTable pE w 11 (some (.ref 6)) 1 (98 + 902) (s31 w os).abs (piecesOf sC eV cE pB [topFrame q0]) = some (.next, (s147 w os).abs, cE, pC)
theorem h_fin : ∀ w : World, (fun os => topRun treeTable pE w 11 (some (.ref 6)) 2 (s147 w os).abs (restOf [] eV cE pC [topFrame q0])) = fun os => some ⟨H1 w.params, #[], {}, 1898, os⟩ := fun w => by
  rw [PySem.W.Fast.te14082659384304107361, PySem.W.Fast.te14364793385576792824]; kernel_rfl
theorem h_size : ∀ w : World, ((H0 w.params).isNs mainGlobals && (#[] : Array GenState).size == 0, (H0 w.params).objs.size, (H0 w.params).nsMap mainGlobals "__annotations__") = (true, 11, some (.ref 6)) := fun w => by
  rw [PySem.W.Fast.te8920871248978507458]; kernel_rfl
end Ku
end
section
open PySem PySem.W PyProof.Rows
namespace Ku
theorem h_E (w : World) : (fun os => segRunT treeTable pE w 11 (some (.ref 6)) 1 300 (s21 w os) (piecesOf sE eV cE pA [topFrame q0])) = fun os => some (.next, s25 w os, cE, pE1) := by
  rw [PySem.W.Fast.te10110043849684766642, PySem.W.Fast.te14364793385576792824]; kernel_rfl
noncomputable def goB (w : World) (os : OsState) : Option (SharedT × Thread) := segGoT treeTable pE w 11 (some (.ref 6)) 1 47 (s25 w os) (piecesOf sB eV cE pE1 [topFrame q0])
noncomputable def mB (w : World) (os : OsState) : Option (SharedT × Thread) := goB (w.withFollow "special-get-raises" true) os
noncomputable def NB (w : World) : Prop := (fun os => goB w os) = fun os => mB w os
theorem h_B1 (w : World) : NB (w.withFollow "special-get-raises" false) := by
  unfold NB mB goB; rw [PySem.W.Fast.te10295753902157049106, PySem.W.Fast.te14364793385576792824]; kernel_rfl
theorem h_B2 (w : World) : NB (w.withFollow "special-get-raises" true) := by
  unfold NB mB goB; rw [PySem.W.Fast.te10295753902157049106, PySem.W.Fast.te14364793385576792824]; kernel_rfl
theorem h_B3 (w : World) : (fun os => thenT treeTable pE w 11 (some (.ref 6)) 1 3353 (mB w os)) = fun os => some (.next, s28 w os, cE, pM) := by
  unfold thenT mB goB; rw [PySem.W.Fast.te10295753902157049106, PySem.W.Fast.te10110043849684766642, PySem.W.Fast.te14364793385576792824]; kernel_rfl
theorem h_B (w : World) : PB w := fun os => by
  have a : goB w os = mB w os := congrFun (byRow2 "special-get-raises" (P := NB) h_B1 h_B2 w) os
  unfold goB at a
  exact segT_by a (congrFun (h_B3 w) os)
noncomputable def goD (w : World) (os : OsState) : Option (SharedT × Thread) := segGoT treeTable pE w 11 (some (.ref 6)) 1 12 (s28 w os) (piecesOf sD eV cE pM [topFrame q0])
noncomputable def mD (w : World) (os : OsState) : Option (SharedT × Thread) := goD (w.withFollow "special-get-raises" true) os
noncomputable def ND (w : World) : Prop := (fun os => goD w os) = fun os => mD w os
theorem h_D1 (w : World) : ND (w.withFollow "special-get-raises" false) := by
  unfold ND mD goD; rw [PySem.W.Fast.te10295753902157049106, PySem.W.Fast.te14364793385576792824]; kernel_rfl
theorem h_D2 (w : World) : ND (w.withFollow "special-get-raises" true) := by
  unfold ND mD goD; rw [PySem.W.Fast.te10295753902157049106, PySem.W.Fast.te14364793385576792824]; kernel_rfl
theorem h_D3 (w : World) : (fun os => thenT treeTable pE w 11 (some (.ref 6)) 1 4688 (mD w os)) = fun os => some (.next, s31 w os, cE, pB) := by
  unfold thenT mD goD; rw [PySem.W.Fast.te10295753902157049106, PySem.W.Fast.te10110043849684766642, PySem.W.Fast.te14364793385576792824]; kernel_rfl
theorem h_D (w : World) : PD w := fun os => by
  have a : goD w os = mD w os := congrFun (byRow2 "special-get-raises" (P := ND) h_D1 h_D2 w) os
  unfold goD at a
  exact segT_by a (congrFun (h_D3 w) os)
noncomputable def goC (w : World) (os : OsState) : Option (SharedT × Thread) := segGoT treeTable pE w 11 (some (.ref 6)) 1 98 (s31 w os) (piecesOf sC eV cE pB [topFrame q0])
noncomputable def mC (w : World) (os : OsState) : Option (SharedT × Thread) := goC (w.withFollow "special-get-raises" true) os
noncomputable def NC (w : World) : Prop := (fun os => goC w os) = fun os => mC w os
theorem h_C1 (w : World) : NC (w.withFollow "special-get-raises" false) := by
  unfold NC mC goC; rw [PySem.W.Fast.te10295753902157049106, PySem.W.Fast.te14364793385576792824]; kernel_rfl
theorem h_C2 (w : World) : NC (w.withFollow "special-get-raises" true) := by
  unfold NC mC goC; rw [PySem.W.Fast.te10295753902157049106, PySem.W.Fast.te14364793385576792824]; kernel_rfl
theorem h_C3 (w : World) : (fun os => thenT treeTable pE w 11 (some (.ref 6)) 1 902 (mC w os)) = fun os => some (.next, s147 w os, cE, pC) := by
  unfold thenT mC goC; rw [PySem.W.Fast.te10295753902157049106, PySem.W.Fast.te10110043849684766642, PySem.W.Fast.te14364793385576792824]; kernel_rfl
theorem h_C (w : World) : PC w := fun os => by
  have a : goC w os = mC w os := congrFun (byRow2 "special-get-raises" (P := NC) h_C1 h_C2 w) os
  unfold goC at a
  exact segT_by a (congrFun (h_C3 w) os)
end Ku
end
section
open PySem PySem.W PyProof.Rows
namespace Ku
noncomputable def onT {β : Type} (m : Option (SharedT × Thread)) (f : Thread → Option β) : Option β := match m with | some (_, t) => f t | none => none
noncomputable def putT (s : SharedT) (m : Option (SharedT × Thread)) : Option (SharedT × Thread) := match m with | some (_, t) => some (s, t) | none => none
theorem putT_some {m : Option (SharedT × Thread)} {s : SharedT} (h : m.map (·.1) = some s) : ∃ t, m = some (s, t) := by
  cases m with
  | none => cases h
  | some x => obtain ⟨s', t⟩ := x; cases h; exact ⟨t, rfl⟩
theorem onT_go {m : Option (SharedT × Thread)} {s₀ s' : SharedT} {t : Thread} {f : Thread → Option (SharedT × Thread)} (e : m = some (s₀, t)) (h : onT m f = putT s' m) : f t = some (s', t) := by
  subst e; exact h
theorem onT_run {β : Type} {m : Option (SharedT × Thread)} {s₀ : SharedT} {t : Thread} {f : Thread → Option β} {r : β} (e : m = some (s₀, t)) (h : onT m f = some r) : f t = some r := by
  subst e; exact h
noncomputable def goA (w : World) (n : Nat) (os : OsState) : Option (SharedT × Thread) := segGoT treeTable pE w 11 (some (.ref 6)) 1 n (s15 w os) (piecesOf sA eV cE q0 [topFrame q0])
noncomputable def wTT (w : World) : World := (w.withFollow "special-get-raises" true).withFollow "comprehension-iter-twice" true
noncomputable def mA (w : World) (os : OsState) : Option (SharedT × Thread) := goA (wTT w) 97 os
noncomputable def PM (n : Nat) (w : World) : Prop := (fun os => goA w n os) = fun os => mA w os
noncomputable def PJ (n i j : Nat) (w : World) : Prop := (fun os => onT (mA w os) fun t => segGoT treeTable pE w 11 (some (.ref 6)) 1 n (sJ i w os) t) = fun os => putT (sJ j w os) (mA w os)
theorem h_A1 (w : World) : PM 107 ((w.withFollow "special-get-raises" false).withFollow "comprehension-iter-twice" false) := by
  unfold PM mA goA; rw [PySem.W.Fast.te10295753902157049106, PySem.W.Fast.te14364793385576792824]; kernel_rfl
theorem h_A2 (w : World) : PM 107 ((w.withFollow "special-get-raises" true).withFollow "comprehension-iter-twice" false) := by
  unfold PM mA goA; rw [PySem.W.Fast.te10295753902157049106, PySem.W.Fast.te14364793385576792824]; kernel_rfl
theorem h_A3 (w : World) : PM 97 ((w.withFollow "special-get-raises" false).withFollow "comprehension-iter-twice" true) := by
  unfold PM mA goA; rw [PySem.W.Fast.te10295753902157049106, PySem.W.Fast.te14364793385576792824]; kernel_rfl
theorem h_A4 (w : World) : PM 97 ((w.withFollow "special-get-raises" true).withFollow "comprehension-iter-twice" true) := by
  unfold PM mA goA; rw [PySem.W.Fast.te10295753902157049106, PySem.W.Fast.te14364793385576792824]; kernel_rfl
theorem h_J (w : World) : (fun os => (mA w os).map (·.1)) = fun os => some (sJ 1 w os) := by
  unfold mA goA; rw [PySem.W.Fast.te10295753902157049106, PySem.W.Fast.te14364793385576792824]; kernel_rfl
theorem h_J1 (w : World) : PJ 2331 1 64 w := by
  unfold PJ mA goA; rw [PySem.W.Fast.te10295753902157049106, PySem.W.Fast.te14364793385576792824]; kernel_rfl
theorem h_J64 (w : World) : PJ 2368 64 128 w := by
  unfold PJ mA goA; rw [PySem.W.Fast.te10295753902157049106, PySem.W.Fast.te14364793385576792824]; kernel_rfl
theorem h_J128 (w : World) : PJ 2368 128 192 w := by
  unfold PJ mA goA; rw [PySem.W.Fast.te10295753902157049106, PySem.W.Fast.te14364793385576792824]; kernel_rfl
theorem h_J192 (w : World) : PJ 2368 192 256 w := by
  unfold PJ mA goA; rw [PySem.W.Fast.te10295753902157049106, PySem.W.Fast.te14364793385576792824]; kernel_rfl
theorem h_J256 (w : World) : (fun os => onT (mA w os) fun t => segRunT treeTable pE w 11 (some (.ref 6)) 1 50 (sJ 256 w os) t) = fun os => some (.next, s21 w os, cE, pA) := by
  unfold mA goA; rw [PySem.W.Fast.te10295753902157049106, PySem.W.Fast.te10110043849684766642, PySem.W.Fast.te14364793385576792824]; kernel_rfl
theorem pa_of (w : World) (n j : Nat) (h : PM n w) (e : n + 9485 + j = 10000) : PA w := fun os => by
  obtain ⟨t, m⟩ := putT_some (congrFun (h_J w) os)
  have a : goA w n os = _ := (congrFun h os).trans m
  unfold goA at a
  have r := segRun_of (onT_run m (congrFun (h_J256 w) os))
  have r1 := seg_go (segGo_of (onT_go m (congrFun (h_J192 w) os))) r
  have r2 := seg_go (segGo_of (onT_go m (congrFun (h_J128 w) os))) r1
  have r3 := seg_go (segGo_of (onT_go m (congrFun (h_J64 w) os))) r2
  have r4 := seg_go (segGo_of (onT_go m (congrFun (h_J1 w) os))) r3
  exact ⟨n + 9485, j, e, seg_go (segGo_of a) r4⟩
theorem h_A (w : World) : PA w := byRow2 "comprehension-iter-twice" (fun w => pa_of _ 107 408 (byRow2 "special-get-raises" (P := fun w => PM 107 (w.withFollow "comprehension-iter-twice" false)) h_A1 h_A2 w) rfl)
  (fun w => pa_of _ 97 418 (byRow2 "special-get-raises" (P := fun w => PM 97 (w.withFollow "comprehension-iter-twice" true)) h_A3 h_A4 w) rfl) w
end Ku
end
section
open PySem PySem.W PyProof.Rows
namespace Ku
theorem h_imp : ∀ w : World, importEnds treeTable (opening pE) w 600 (start (opening pE)).1 (start (opening pE)).2 = some ⟨boot_heap w.params, #[], {}, 181, (start (opening pE)).1.os⟩ := fun w => by
  rw [PySem.W.Fast.te10274390034422433532, PySem.W.Fast.te14364793385576792824, PySem.W.Fast.te1435165496053646825]; kernel_rfl
theorem h_fence : ∀ w : World, (fun os => (fenceModules? pE ⟨boot_heap w.params, #[], {}, 181, os⟩).map (fun s => (s.heap, s.gens, s.drawn, s.toks))) = fun _ => some (H0 w.params, #[], {}, 181) := fun w => by
  rw [PySem.W.Fast.te14289696077712309145]; kernel_rfl
end Ku
end
section
open PySem PySem.W PyProof.Rows
namespace Ku
noncomputable def pick : List Nat → List Stmt
  | [] => []
  | i :: r => fstmt i :: pick r
noncomputable def view : Program := { pE with main := { pE.main with body := pick [0, 1, 2, 3, 4, 5, 6, 7, 8, 9, 14, 15, 16, 22, 23, 24, 25, 26, 27, 30, 31, 32, 33, 34] } }
noncomputable def looseV : List Str := [Str.ofString "_QUOPRI_MAP", Str.ofString "_QUOPRI_HEADER_MAP", Str.ofString "_QUOPRI_BODY_MAP", Str.ofString "ascii_letters", Str.ofString "hexdigits", Str.ofString "_QUOPRI_BODY_ENCODE_MAP",
  Str.ofString "body_encode", Str.ofString "decode", Str.ofString "length_hint"]
noncomputable def lvV : List (Str × WData) := [(Str.ofString "ascii_letters", .str (Str.ofString "abcdefghijklmnopqrstuvwxyzABCDEFGHIJKLMNOPQRSTUVWXYZ")), (Str.ofString "hexdigits", .str (Str.ofString "0123456789abcdefABCDEF"))]
noncomputable def rowU : RowW := PySem.Challenge.rw_ku0008_01.row.toRowW
noncomputable def xtV (s : Shared) : Bool := xlAt view lvV s && recOk (RowW.records rowU) s
noncomputable def kH : Hook := kHook frag fragA (fun _ => by kernel_rfl)
theorem h_l1 : ∀ w : World, (fun os => staticsOk (importedModules pE.main.body) (H0 w.params) (H1 w.params) && namesBound pE (H1 w.params) && gensDone ⟨H1 w.params, #[], {}, 1898, os⟩ && laidKept (H0 w.params) (H1 w.params)) = fun _ => true := fun w => by
  kernel_rfl
theorem h_l3 : ∀ w : World, (fun os => kH.obs ⟨H1 w.params, #[], {}, 1898, os⟩) = fun _ => kH.val w := fun w => by
  kernel_rfl
theorem h_l2 : ∀ w : World, (fun os => openSeen view looseV (importedModules pE.main.body) xtV true ⟨H1 w.params, #[], {}, 1898, os⟩) = fun _ => openGood view looseV := fun w => by
  rw [PySem.W.Fast.te4187177175401517315]; kernel_rfl
end Ku
end
section
open PySem PySem.W PyProof.Rows
namespace Ku
theorem h_run (w : World) (os : OsState) : topRun treeTable pE w 11 (some (.ref 6)) (12 + (1 + (10000 + (300 + ((47 + 3353) + ((12 + 4688) + ((98 + 902) + 2))))))) ⟨H0 w.params, #[], {}, 181, os⟩ (topStub pE) = some ⟨H1 w.params, #[], {}, 1898, os⟩ := by
  refine go_top (congrFun (h_pre w) os) (piece_block (congrFun (h_block w) os) ?_)
  rw [h_body]
  have k := piece_app (segRun_of (congrFun (h_E w) os)) (piece_app (h_B w os) (piece_app (h_D w os) (piece_app (h_C w os) (congrFun (h_fin w) os))))
  obtain ⟨n, j, e, a⟩ := h_A w os
  have m := topRun_mono j _ _ _ _ (piece_app a k)
  rw [Nat.add_right_comm, e] at m
  exact m
theorem h_left : LeftO pE view looseV xtV kH.obs kH.val 20000 :=
  LeftO.of_pieces (H₀ := H0) (H₁ := H1) (gs₀ := #[]) (gs₁ := #[]) (d₀ := {}) (d₁ := {}) (k₀ := 181) (k₁ := 1898) (m₀ := 11) (ann := some (.ref 6)) (M := 12 + (1 + (10000 + (300 + ((47 + 3353) + ((12 + 4688) + ((98 + 902) + 2)))))))
    (open_cut h_imp (by decide) h_fence) h_size h_run (by decide) fun w => by
      have e1 := h_l1 w
      have e2 := h_l2 w
      have e3 := h_l3 w
      funext os
      exact Prod.ext (congrFun e1 os) (Prod.ext (congrFun e2 os) (congrFun e3 os))
end Ku
end
section
open PySem PySem.W PyProof.Rows
namespace Ku
theorem h_said : PySem.Challenge.rw_ku0008_01.wellSaid = true := by
  rw [PySem.W.Fast.te9446332074065402090]; kernel_rfl
theorem h_ok : (chainsOk view && opensWell PySem.Challenge.rw_ku0008_01.row.prog && (frees rowU && PySem.Challenge.rw_ku0008_01.row.within.isEmpty)) = true := by kernel_rfl
theorem h_tab : PySem.Challenge.rw_ku0008_01.row.prog.tablesWhole = true := by kernel_rfl
theorem h_bare : PySem.Challenge.rw_ku0008_01.row.prog.bare := ⟨rfl, rfl, rfl, rfl, rfl, h_tab⟩
theorem h_wit : rowU.promised := by
  show PySem.Challenge.rw_ku0008_01.row.toRowW.promised
  w_witness2
end Ku
end
section
open PySem PySem.W PyProof.Rows
namespace Ku
noncomputable def fpos (i : Nat) : Pos := match fstmt i with | .FunctionDef _ _ _ _ _ _ _ _ _ p => p | _ => default
noncomputable def dU : DefRec := ⟨fname 34, fparams 34, fbody 34, fscope 34, fpos 34⟩
theorem hd (walk : WalkO view looseV (XL view lvV) kH.says rowU dU [] fun f vs => PySem.call f vs) : PySem.Challenge.rw_ku0008_01.Holds :=
  holds_law h_said fun said => holds_open (q := view) (loose := looseV) (Xt := xtV) (XP := XL view lvV) (Yf := kH.obs) (Ya := kH.val) (YP := kH.says) (N := 20000) h_left kH.of kH.keeps (fun s e => xl_of s (Bool.and_eq_true_iff.mp e).1) XL.keeps
    (by kernel_rfl) (by kernel_rfl) (by kernel_rfl) (fun s e => recFacts_of (Bool.and_eq_true_iff.mp e).2) (by kernel_rfl) said h_ok h_bare h_wit walk
end Ku
end
section
open PySem PySem.W PyProof.Rows
namespace Ku
theorem mkS_toList (l : T) : (mkS l).cps.toList = l := rfl
theorem mkS_len (l : T) : (mkS l).length = l.length := by simp [mkS, Str.length]
theorem mkS_append (a b : T) : mkS a ++ mkS b = mkS (a ++ b) := by
  apply Str.ext'; show (mkS a).cps ++ (mkS b).cps = _; simp [mkS]
theorem mkS_inj {a b : T} : mkS a = mkS b ↔ a = b := by
  constructor
  · intro h
    have := congrArg (fun x => x.cps.toList) h
    simpa [mkS] using this
  · rintro rfl; rfl
theorem mkS_beq (a b : T) : (mkS a == mkS b) = decide (a = b) := by
  by_cases h : a = b
  · subst h; simp
  · rw [decide_eq_false h]
    exact beq_false_of_ne fun e => h (mkS_inj.mp e)
open Builtin Builtin.Str in
theorem slice_nat (l : T) (i j : Nat) (hij : i ≤ j) : Txt.slice (mkS l) (some (i : Int)) (some (j : Int)) = mkS ((l.drop i).take (j - i)) := by
  have e : strSliceIndices (some (i : Int)) (some (j : Int)) 1 (mkS l).length = strSliceIndices (some ((min i l.length : Nat) : Int)) (some ((min j l.length : Nat) : Int)) 1 (mkS l).length := by
    have h1 : ¬ ((i : Int) < 0) := by (first | lia | omega)
    have h2 : ¬ ((j : Int) < 0) := by (first | lia | omega)
    have h3 : ¬ (((min i l.length : Nat) : Int) < 0) := by (first | lia | omega)
    have h4 : ¬ (((min j l.length : Nat) : Int) < 0) := by (first | lia | omega)
    simp only [strSliceIndices, mkS_len, if_neg h1, if_neg h2, if_neg h3, if_neg h4]
    have a1 : max (0 : Int) (min (i : Int) (l.length : Int)) = max 0 (min ((min i l.length : Nat) : Int) (l.length : Int)) := by (first | lia | omega)
    have a2 : max (0 : Int) (min (j : Int) (l.length : Int)) = max 0 (min ((min j l.length : Nat) : Int) (l.length : Int)) := by (first | lia | omega)
    simp only [show ((1 : Int) > 0) from by decide, if_true, a1, a2]
  have e2 : Txt.slice (mkS l) (some (i : Int)) (some (j : Int)) = StrLaws.sliceText (mkS l) (some ((min i l.length : Nat) : Int)) (some ((min j l.length : Nat) : Int)) := by
    unfold Txt.slice StrLaws.sliceText
    rw [e]
  rw [e2, StrLaws.sliceText_nat (mkS l) (by (first | lia | omega)) (by rw [mkS_len]; (first | lia | omega)), mkS_toList]
  show mkS _ = mkS _
  congr 1
  by_cases h : i ≤ l.length
  · rw [Nat.min_eq_left h]
    by_cases h' : j ≤ l.length
    · rw [Nat.min_eq_left h']
    · rw [Nat.min_eq_right (by (first | lia | omega))]
      rw [List.take_of_length_le (by simp), List.take_of_length_le (by simp; (first | lia | omega))]
  · have h1 : min i l.length = l.length := Nat.min_eq_right (by (first | lia | omega))
    rw [h1, List.drop_eq_nil_of_le (by (first | lia | omega) : l.length ≤ i), List.drop_length]; simp
theorem slice_from (l : T) (i : Nat) : Txt.slice (mkS l) (some (i : Int)) none = mkS (l.drop i) := by
  have e : Txt.slice (mkS l) (some (i : Int)) none = Txt.slice (mkS l) (some (i : Int)) (some ((max i l.length : Nat) : Int)) := by
    unfold Txt.slice
    rw [StrLaws.sliceIdx_none_hi]
    have : ∀ a : Int, Builtin.Str.strSliceIndices (some (i : Int)) (some ((mkS l).length : Int)) 1 (mkS l).length = Builtin.Str.strSliceIndices (some (i : Int)) (some ((max i l.length : Nat) : Int)) 1 (mkS l).length := by
      intro _
      have h2 : ¬ ((l.length : Int) < 0) := by (first | lia | omega)
      have h4 : ¬ (((max i l.length : Nat) : Int) < 0) := by (first | lia | omega)
      simp only [Builtin.Str.strSliceIndices, mkS_len, if_neg h2, if_neg h4]
      have a2 : max (0 : Int) (min (l.length : Int) (l.length : Int)) = max 0 (min ((max i l.length : Nat) : Int) (l.length : Int)) := by (first | lia | omega)
      simp only [show ((1 : Int) > 0) from by decide, if_true, a2]
    rw [this 0]
  rw [e, slice_nat l i _ (by (first | lia | omega)), List.take_of_length_le (by simp; (first | lia | omega))]
/-- [i:-1] -/
theorem slice_neg (l : T) (i k : Nat) (hk : 0 < k) (hkl : k ≤ l.length) (hik : i ≤ l.length - k) : Txt.slice (mkS l) (some (i : Int)) (some (-(k : Int))) = mkS ((l.drop i).take (l.length - k - i)) := by
  have : Txt.slice (mkS l) (some (i : Int)) (some (-(k : Int))) = Txt.slice (mkS l) (some (i : Int)) (some ((l.length - k : Nat) : Int)) := by
    unfold Txt.slice
    rw [StrLaws.sliceIdx_neg_hi (some (i : Int)) (j := -(k : Int)) (mkS l).length (by (first | lia | omega)) (by rw [mkS_len]; (first | lia | omega))]
    have : (-(k : Int) + ((mkS l).length : Int)) = ((l.length - k : Nat) : Int) := by rw [mkS_len]; (first | lia | omega)
    rw [this]
  rw [this, slice_nat l i _ hik]
theorem slice_to_neg (l : T) (k : Nat) (hk : 0 < k) (hkl : k ≤ l.length) : Txt.slice (mkS l) none (some (-(k : Int))) = mkS (l.take (l.length - k)) := by
  have : Txt.slice (mkS l) none (some (-(k : Int))) = Txt.slice (mkS l) (some ((0 : Nat) : Int)) (some (-(k : Int))) := by
    unfold Txt.slice
    rw [StrLaws.sliceIdx_none_lo]; rfl
  rw [this, slice_neg l 0 k hk hkl (by (first | lia | omega))]; simp
theorem charAt_nat {l : T} {k c : Nat} (h : l[k]? = some c) : Txt.charAt (mkS l) (k : Int) = some c := by
  have hk : k < l.length := by
    rcases Nat.lt_or_ge k l.length with q | q
    · exact q
    · rw [List.getElem?_eq_none q] at h; cases h
  unfold Txt.charAt
  rw [StrLaws.at_nonneg (n := c) (by (first | lia | omega))]
  show (mkS l).cps[((k : Int)).toNat]? = some c
  simp [mkS, h]
theorem charAt_last {l : T} {c : Nat} (h : l.getLast? = some c) : Txt.charAt (mkS l) (-1) = some c := by
  have hne : 0 < l.length := by
    cases l with
    | nil => simp at h
    | cons => simp
  unfold Txt.charAt
  refine StrLaws.at_neg (by decide) (by rw [mkS_len]; (first | lia | omega)) ?_
  rw [mkS_len]
  have e : ((-1 : Int) + (l.length : Int)).toNat = l.length - 1 := by (first | lia | omega)
  rw [e]
  rw [List.getLast?_eq_getElem?] at h
  simp [mkS, h]
section
variable {pg : Program} {w : World} {A : Around} {E : Value → Shared → Prop} {s : Shared} {value slice : PySem.Expr} {l : T} {t u : Tok}
theorem item_nat {i : Int} (k : Nat) {c : Nat} {Q : Value → Shared → Prop} (hi : i = (k : Int)) (hc : l[k]? = some c) (hl : l.length < 2 ^ 62) (h : ∀ tk tk', Q (.str (mkS [c]) tk) { s with toks := tk' })
    (hs : subscripted slice false (.str (mkS l) t) (.int i u) = operate [.str (mkS l) t, .int i u] (getItem (.str (mkS l) t) (.int i u)) := by with_unfolding_all rfl)
    (ht : ∀ r, letTemporaryGo value (.str (mkS l) t) r = pure () := by intro _; with_unfolding_all rfl) :
    wpAny (model pg w) A (subscriptTail value slice (.str (mkS l) t) (.int i u)) Q E s := by
  subst hi
  have hk : k < l.length := by
    rcases Nat.lt_or_ge k l.length with q | q
    · exact q
    · rw [List.getElem?_eq_none q] at hc; cases hc
  refine item_str (fitsSsize_of (N := 9223372036854775808) (by (first | lia | omega)) (by (first | lia | omega)) (Int.le_refl _)) (by rw [mkS_len]; (first | lia | omega)) (by rw [mkS_len]; (first | lia | omega)) (fun _ => ?_) hs ht
  have : Txt.item (mkS l) (k : Int) = mkS [c] := by unfold Txt.item; rw [charAt_nat hc]; rfl
  rw [this]; exact h _ _
theorem item_last {c : Nat} {Q : Value → Shared → Prop} (hc : l.getLast? = some c) (h : ∀ tk tk', Q (.str (mkS [c]) tk) { s with toks := tk' })
    (hs : subscripted slice false (.str (mkS l) t) (.int (-1) u) = operate [.str (mkS l) t, .int (-1) u] (getItem (.str (mkS l) t) (.int (-1) u)) := by with_unfolding_all rfl)
    (ht : ∀ r, letTemporaryGo value (.str (mkS l) t) r = pure () := by intro _; with_unfolding_all rfl) :
    wpAny (model pg w) A (subscriptTail value slice (.str (mkS l) t) (.int (-1) u)) Q E s := by
  have hne : 0 < l.length := by
    cases l with
    | nil => simp at hc
    | cons => simp
  refine item_str (fitsSsize_of (N := 9223372036854775808) (by (first | lia | omega)) (by (first | lia | omega)) (Int.le_refl _)) (by rw [mkS_len]; (first | lia | omega)) (by rw [mkS_len]; (first | lia | omega)) (fun _ => ?_) hs ht
  have : Txt.item (mkS l) (-1) = mkS [c] := by unfold Txt.item; rw [charAt_last hc]; rfl
  rw [this]; exact h _ _
end
end Ku
end
section
open PySem PySem.W PyProof.Rows
namespace Ku
noncomputable def S (s₀ : Shared) (h : Heap) (k : Nat) : Shared := { s₀ with heap := h, toks := k }
theorem S_self (s : Shared) : s = S s s.heap s.toks := rfl
noncomputable def look : List (Str × Value) → Str → Option Value
  | [], _ => none
  | (n, v) :: r, y => if y = n then some v else look r y
noncomputable def Ext (h h' : Heap) : Prop := ∀ b o, h.get? b = some o → h'.get? b = some o
theorem Ext.refl (h : Heap) : Ext h h := fun _ _ e => e
theorem Ext.trans {a b c : Heap} (x : Ext a b) (y : Ext b c) : Ext a c := fun p o e => y p o (x p o e)
theorem Ext.fr {h h' h₀ : Heap} {L : Addr} {m : Str → Option Value} (x : Ext h h') (F : Fr h₀ L h m) : Fr h₀ L h' m :=
  let ⟨o, es, ep, e, r⟩ := F.ns; ⟨⟨o, es, ep, x _ _ e, r⟩, fun b o e => x b o (F.keep b o e), F.above⟩
theorem Ext.news {h h' h₀ : Heap} {L : Addr} {news : List (Addr × Obj)} (x : Ext h h') (N : News h₀ L h news) : News h₀ L h' news :=
  fun p hp => ⟨x _ _ (N p hp).1, (N p hp).2⟩
/-- what follows a statement -/
noncomputable def Seq (pg : Program) (w : World) (A : Around) (rest : List Stmt) (env : Env) (Q : Flow → Shared → Prop) (E : Value → Shared → Prop) : Flow → Shared → Prop :=
  fun f s' => match f with | .next => wpAny (model pg w) A (execs rest env) Q E s' | f => Q f s'
noncomputable def Br (b : Bool) (P N : Prop) : Prop := (b = true → P) ∧ (b = false → N)
theorem Br.mk' {b : Bool} {P N : Prop} (h1 : b = true → P) (h2 : b = false → N) : Br b P N := ⟨h1, h2⟩
theorem Br.t {b : Bool} {P N : Prop} (hb : b = true) (h : P) : Br b P N := ⟨fun _ => h, fun e => by rw [hb] at e; cases e⟩
theorem Br.f {b : Bool} {P N : Prop} (hb : b = false) (h : N) : Br b P N := ⟨fun e => (by rw [hb] at e; cases e), fun _ => h⟩
theorem Br.ite {b : Bool} {P N : Prop} (h : Br b P N) : if b = true then P else N := by
  cases b
  · rw [if_neg (by decide)]; exact h.2 rfl
  · rw [if_pos rfl]; exact h.1 rfl
/-! ### what waits for a value: each with a name of its own, so that a walk's terms stay small -/
@[reducible] noncomputable def KNext {α : Type} (Q : Flow → Shared → Prop) (_ : α) (s : Shared) : Prop := Q .next s
@[reducible] noncomputable def KRet (Q : Flow → Shared → Prop) (v : Value) (s : Shared) : Prop := Q (.ret v) s
@[reducible] noncomputable def KExpr (Q : Flow → Shared → Prop) (v : Value) (s : Shared) : Prop := v = .none ∧ Q .next s
@[reducible] noncomputable def KCons (v : Value) (Q : List Value → Shared → Prop) (vs : List Value) (s : Shared) : Prop := Q (v :: vs) s
section
variable (pg : Program) (w : World) (A : Around)
@[reducible] noncomputable def KIf (body orelse : List Stmt) (env : Env) (Q : Flow → Shared → Prop) (E : Value → Shared → Prop) (b : Bool) (s : Shared) : Prop := Br b (wpAny (model pg w) A (execs body env) Q E s) (wpAny (model pg w) A (execs orelse env) Q E s)
@[reducible] noncomputable def KAsg (env : Env) (x : Str) (Q : Flow → Shared → Prop) (E : Value → Shared → Prop) (v : Value) (s : Shared) : Prop := wpAny (model pg w) A (storeName env x v) (KNext Q) E s
@[reducible] noncomputable def KAug3 (op : Operator) (env : Env) (x : Str) (old : Value) (Q : Flow → Shared → Prop) (E : Value → Shared → Prop) (v : Value) (s : Shared) : Prop := wpAny (model pg w) A (inplaceOp op old v) (KAsg pg w A env x Q E) E s
@[reducible] noncomputable def KAug2 (op : Operator) (e : PySem.Expr) (env : Env) (x : Str) (Q : Flow → Shared → Prop) (E : Value → Shared → Prop) (old : Value) (s : Shared) : Prop := wpAny (model pg w) A (eval e env) (KAug3 pg w A op env x old Q E) E s
@[reducible] noncomputable def KBin2 (op : Operator) (a : Value) (Q : Value → Shared → Prop) (E : Value → Shared → Prop) (b : Value) (s : Shared) : Prop := wpAny (model pg w) A (binaryOp op a b) Q E s
@[reducible] noncomputable def KBin1 (op : Operator) (r : PySem.Expr) (env : Env) (Q : Value → Shared → Prop) (E : Value → Shared → Prop) (a : Value) (s : Shared) : Prop := wpAny (model pg w) A (eval r env) (KBin2 pg w A op a Q E) E s
@[reducible] noncomputable def KUn (op : UnaryOp) (Q : Value → Shared → Prop) (E : Value → Shared → Prop) (v : Value) (s : Shared) : Prop := wpAny (model pg w) A (unaryOp op v) Q E s
@[reducible] noncomputable def KCmp2 (op : CmpOp) (a : Value) (Q : Value → Shared → Prop) (E : Value → Shared → Prop) (b : Value) (s : Shared) : Prop := wpAny (model pg w) A (compareOp op a b) Q E s
@[reducible] noncomputable def KCmp1 (op : CmpOp) (r : Sem Value) (Q : Value → Shared → Prop) (E : Value → Shared → Prop) (a : Value) (s : Shared) : Prop := wpAny (model pg w) A r (KCmp2 pg w A op a Q E) E s
@[reducible] noncomputable def KIfe (body orelse : PySem.Expr) (env : Env) (Q : Value → Shared → Prop) (E : Value → Shared → Prop) (b : Bool) (s : Shared) : Prop := Br b (wpAny (model pg w) A (eval body env) Q E s) (wpAny (model pg w) A (eval orelse env) Q E s)
@[reducible] noncomputable def KSub2 (value slice : PySem.Expr) (o : Value) (Q : Value → Shared → Prop) (E : Value → Shared → Prop) (i : Value) (s : Shared) : Prop := wpAny (model pg w) A (subscriptTail value slice o i) Q E s
@[reducible] noncomputable def KSub1 (value slice : PySem.Expr) (env : Env) (Q : Value → Shared → Prop) (E : Value → Shared → Prop) (o : Value) (s : Shared) : Prop := wpAny (model pg w) A (eval slice env) (KSub2 pg w A value slice o Q E) E s
@[reducible] noncomputable def KTru (Q : Bool → Shared → Prop) (E : Value → Shared → Prop) (v : Value) (s : Shared) : Prop := wpAny (model pg w) A (truthy v) Q E s
@[reducible] noncomputable def KChain (pos : Pos) (ops : List CmpOp) (rs : List (Sem Value)) (Q : Bool → Shared → Prop) (E : Value → Shared → Prop) (a : Value) (s : Shared) : Prop := wpAny (model pg w) A (testChain pos a ops rs) Q E s
@[reducible] noncomputable def KLink (pos : Pos) (b : Value) (op' : CmpOp) (r' : Sem Value) (Q : Bool → Shared → Prop) (E : Value → Shared → Prop) (t : Bool) (s : Shared) : Prop := Br t (wpAny (model pg w) A (testChain pos b [op'] [r']) Q E s) (Q false s)
@[reducible] noncomputable def KLink1 (pos : Pos) (op op' : CmpOp) (r' : Sem Value) (a : Value) (Q : Bool → Shared → Prop) (E : Value → Shared → Prop) (b : Value) (s : Shared) : Prop := wpAny (model pg w) A (compareOp op a b) (KTru pg w A (KLink pg w A pos b op' r' Q E) E) E s
@[reducible] noncomputable def KCall (pos : Pos) (args : List PySem.Expr) (env : Env) (Q : Value → Shared → Prop) (E : Value → Shared → Prop) (f : Value) (s : Shared) : Prop := wpAny (model pg w) A (callWith pos f [] (backTo pos (starEach args env)) []) Q E s
@[reducible] noncomputable def KMeth (pos : Pos) (args : List PySem.Expr) (env : Env) (Q : Value → Shared → Prop) (E : Value → Shared → Prop) (fx : Value × List Value) (s : Shared) : Prop := wpAny (model pg w) A (callWith pos fx.1 fx.2 (backTo pos (starEach args env)) []) Q E s
@[reducible] noncomputable def KGet (name : Str) (pl : Sem Bool) (pos : Pos) (args : List PySem.Expr) (env : Env) (Q : Value → Shared → Prop) (E : Value → Shared → Prop) (ov : Value) (s : Shared) : Prop := wpAny (model pg w) A (getMethod ov name pl) (KMeth pg w A pos args env Q E) E s
@[reducible] noncomputable def KSeqT (k : Nat) (rest : List Stmt) (env : Env) (Q : Flow → Shared → Prop) (E : Value → Shared → Prop) (f : Flow) (s : Shared) : Prop := k ≤ s.toks → Seq pg w A rest env Q E f s
@[reducible] noncomputable def KArgs (pos : Pos) (es : List PySem.Expr) (env : Env) (Q : List Value → Shared → Prop) (E : Value → Shared → Prop) (v : Value) (s : Shared) : Prop := wpAny (model pg w) A (spliced (backTo pos (starEach es env))) (KCons v Q) E s
@[reducible] noncomputable def KGo0 (f : Value) (Q : Value → Shared → Prop) (E : Value → Shared → Prop) (vs : List Value) (s : Shared) : Prop := wpAny (model pg w) A (call f vs) Q E s
@[reducible] noncomputable def KGo1 (f self : Value) (Q : Value → Shared → Prop) (E : Value → Shared → Prop) (vs : List Value) (s : Shared) : Prop := wpAny (model pg w) A (call f (self :: vs)) Q E s
@[reducible] noncomputable def KList (Q : Value → Shared → Prop) (E : Value → Shared → Prop) (vs : List Value) (s : Shared) : Prop := wpAny (model pg w) A (newList vs) Q E s
@[reducible] noncomputable def KTup (Q : Value → Shared → Prop) (E : Value → Shared → Prop) (vs : List Value) (s : Shared) : Prop := wpAny (model pg w) A (newTuple vs) Q E s
end
section
variable {pg : Program} {w : World} {A : Around} {E : Value → Shared → Prop} {s₀ : Shared} {h h₀ : Heap} {k : Nat} {d : Ad} {mg mb : Str → Option Value} {env : Env} {cn : Str} {cs : Scope} {L a : Addr} {ccd : Value} {cl : List (Str × Addr)} {vals : List (Str × Value)}
  {rest : List Stmt} {pos : Pos} {news : List (Addr × Obj)}
/-! ### cuts -/
theorem k_cut {α : Type} {tr : Sem α} {Q : α → Shared → Prop} {s : Shared} (P : α → Shared → Prop) (h1 : wpAny (model pg w) A tr P E s) (h2 : ∀ b s', P b s' → Q b s') : wpAny (model pg w) A tr Q E s := wpAny_mono h1 h2 fun _ _ x => x
/-- a test that changes no more than tokens -/
theorem t_cut {tr : Sem Bool} {Q : Bool → Shared → Prop} (b : Bool) (h1 : wpAny (model pg w) A tr (fun c s' => c = b ∧ ∃ k', s' = S s₀ h k') E (S s₀ h k)) (h2 : ∀ k', Q b (S s₀ h k')) : wpAny (model pg w) A tr Q E (S s₀ h k) :=
  k_cut _ h1 fun c s' x => by obtain ⟨rfl, k', rfl⟩ := x; exact h2 k'
/-! ### statements -/
theorem k_nil {Q : Flow → Shared → Prop} (hq : Q .next (S s₀ h k)) : wpAny (model pg w) A (execs [] env) Q E (S s₀ h k) := wpAny_execs_nil hq
theorem k_cons {st : Stmt} {Q : Flow → Shared → Prop} (hq : wpAny (model pg w) A (exec st env) (Seq pg w A rest env Q E) E (S s₀ h k)) : wpAny (model pg w) A (execs (st :: rest) env) Q E (S s₀ h k) := wpAny_execs_cons hq
theorem k_next {Q : Flow → Shared → Prop} {s : Shared} (hq : wpAny (model pg w) A (execs rest env) Q E s) : Seq pg w A rest env Q E .next s := hq
theorem k_ret {Q : Flow → Shared → Prop} {s : Shared} {v : Value} (hq : Q (.ret v) s) : Seq pg w A rest env Q E (.ret v) s := hq
theorem k_cont {Q : Flow → Shared → Prop} {s : Shared} (hq : Q .cont s) : Seq pg w A rest env Q E .cont s := hq
theorem k_return {e : PySem.Expr} {Q : Flow → Shared → Prop} (hq : wpAny (model pg w) A (eval e env) (KRet Q) E (S s₀ h k)) : wpAny (model pg w) A (exec (.Return (some e) pos) env) Q E (S s₀ h k) := wpAny_Return_some hq
theorem k_expr {e : PySem.Expr} {Q : Flow → Shared → Prop} (hq : wpAny (model pg w) A (eval e env) (KExpr Q) E (S s₀ h k))
    (hi : interactive env = false := by rfl) (hs : swapsWith e none pos.line env = pure false := by rfl) : wpAny (model pg w) A (exec (.Expr e pos) env) Q E (S s₀ h k) :=
  wpAny_Expr (wpAny_mono hq (fun v s x => by obtain ⟨rfl, x⟩ := x; exact x) fun _ _ x => x) hi hs
theorem k_continue {Q : Flow → Shared → Prop} (hq : Q .cont (S s₀ h k)) : wpAny (model pg w) A (exec (.Continue pos) env) Q E (S s₀ h k) := wpAny_Continue hq
theorem k_if {test : PySem.Expr} {body orelse : List Stmt} {Q : Flow → Shared → Prop}
    (hq : wpAny (model pg w) A (isTrue test env (eval test env)) (KIf pg w A body orelse env Q E) E (S s₀ h k)) :
    wpAny (model pg w) A (exec (.If test body orelse pos) env) Q E (S s₀ h k) := wpAny_If (wpAny_mono hq (fun _ _ x => x.ite) fun _ _ x => x)
theorem k_assign {x : Str} {px : Pos} {e : PySem.Expr} {Q : Flow → Shared → Prop}
    (hq : wpAny (model pg w) A (eval e env) (KAsg pg w A env x Q E) E (S s₀ h k))
    (hs : swapsWith e (some (.Name x px)) pos.line env = pure false := by rfl) :
    wpAny (model pg w) A (exec (.Assign [.Name x px] e pos) env) Q E (S s₀ h k) := wpAny_Assign_Name hq hs
theorem k_aug {x : Str} {px : Pos} {op : Operator} {e : PySem.Expr} {Q : Flow → Shared → Prop}
    (hq : wpAny (model pg w) A (loadName env x) (KAug2 pg w A op e env x Q E) E (S s₀ h k)) :
    wpAny (model pg w) A (exec (.AugAssign (.Name x px) op e pos) env) Q E (S s₀ h k) := wpAny_AugAssign_Name hq
/-! ### names -/
theorem k_store {x : Str} {v : Value} {Q : Unit → Shared → Prop} (F : Fr h₀ L h (look vals)) (N : News h₀ L h news)
    (hq : ∀ h' k', Fr h₀ L h' (look ((x, v) :: vals)) → News h₀ L h' news → Q () (S s₀ h' k'))
    (hx : (envX cn cs L a ccd cl).kindOf x = some .local) (hk : cs.kind = .function) : wpAny (model pg w) A (storeName (envX cn cs L a ccd cl) x v) Q E (S s₀ h k) :=
  storeX_L (s := S s₀ h k) F N (fun h' F' N' => hq h' (k + 1) F' N') hk hx
theorem k_local {x : Str} {v : Value} {Q : Value → Shared → Prop} (F : Fr h₀ L h (look vals)) (hv : look vals x = some v) (hq : Q v (S s₀ h k))
    (hx : (envX cn cs L a ccd cl).kindOf x = some .local) (hk : cs.kind = .function) (hd : (x == ("__debug__" : Str)) = false) : wpAny (model pg w) A (eval (.Name x pos) (envX cn cs L a ccd cl)) Q E (S s₀ h k) :=
  nameX_L (s := S s₀ h k) F hv hq hk hx hd
theorem k_load {x : Str} {v : Value} {Q : Value → Shared → Prop} (F : Fr h₀ L h (look vals)) (hv : look vals x = some v) (hq : Q v (S s₀ h k))
    (hx : (envX cn cs L a ccd cl).kindOf x = some .local) (hk : cs.kind = .function) : wpAny (model pg w) A (loadName (envX cn cs L a ccd cl) x) Q E (S s₀ h k) :=
  wpAny_loadName_local (s := S s₀ h k) hk hx F.ns hv hq
theorem k_glob {x : Str} {v : Value} {m : Str → Option Value} {Q : Value → Shared → Prop} (G : Glb d mg mb h₀) (F : Fr h₀ L h m) (hv : mg x = some v) (hq : Q v (S s₀ h k))
    (hx : (envX cn cs L a ccd cl).kindOf x = some .globalImplicit) (hk : cs.kind = .function) (hd : (x == ("__debug__" : Str)) = false) : wpAny (model pg w) A (eval (.Name x pos) (envX cn cs L a ccd cl)) Q E (S s₀ h k) :=
  Calls.Name_function_global hk hx (Calls.loadGlobal_global (env := envX cn cs L a ccd cl) (s := S s₀ h k) (G.g.keeps F.keep) hv hq) hd
theorem k_bi {x : Str} {v : Value} {m : Str → Option Value} {Q : Value → Shared → Prop} (G : Glb d mg mb h₀) (F : Fr h₀ L h m) (hm : x ∈ biNames) (hv : bootBuiltins x = some v) (hq : Q v (S s₀ h k))
    (hn : x ≠ "__name__") (hx : (envX cn cs L a ccd cl).kindOf x = some .globalImplicit) (hk : cs.kind = .function) (hd : (x == ("__debug__" : Str)) = false) : wpAny (model pg w) A (eval (.Name x pos) (envX cn cs L a ccd cl)) Q E (S s₀ h k) :=
  Calls.Name_function_global hk hx (Calls.loadGlobal_builtin (env := envX cn cs L a ccd cl) (s := S s₀ h k) (G.g.keeps F.keep) (G.free x hm) (G.b.keeps F.keep) ((G.bi x hn).trans hv) hq) hd
/-! ### constants -/
theorem k_int {i : Int} {kk : Nat} {Q : Value → Shared → Prop} (hq : ∀ t k', Q (.int i t) (S s₀ h k')) : wpAny (model pg w) A (eval (.Constant (.int i) kk pos) env) Q E (S s₀ h k) := wpAny_Constant_int (s := S s₀ h k) (hq _ _)
theorem k_str {x : Str} {l : T} {kk : Nat} {Q : Value → Shared → Prop} (hx : x = mkS l) (hq : ∀ t k', Q (.str (mkS l) t) (S s₀ h k')) : wpAny (model pg w) A (eval (.Constant (.str x) kk pos) env) Q E (S s₀ h k) := by
  subst hx; exact wpAny_Constant_str (s := S s₀ h k) (hq _ _)
theorem k_bool {b : Bool} {kk : Nat} {Q : Value → Shared → Prop} (hq : Q (.bool b) (S s₀ h k)) : wpAny (model pg w) A (eval (.Constant (.bool b) kk pos) env) Q E (S s₀ h k) := wpAny_Constant_bool hq
theorem k_none {kk : Nat} {Q : Value → Shared → Prop} (hq : Q .none (S s₀ h k)) : wpAny (model pg w) A (eval (.Constant .none kk pos) env) Q E (S s₀ h k) := wpAny_Constant_none hq
/-! ### expressions -/
theorem k_bin {l r : PySem.Expr} {op : Operator} {Q : Value → Shared → Prop}
    (hq : wpAny (model pg w) A (eval l env) (KBin1 pg w A op r env Q E) E (S s₀ h k)) : wpAny (model pg w) A (eval (.BinOp l op r pos) env) Q E (S s₀ h k) := wpAny_BinOp hq
theorem k_un {x : PySem.Expr} {op : UnaryOp} {Q : Value → Shared → Prop} (hq : wpAny (model pg w) A (eval x env) (KUn pg w A op Q E) E (S s₀ h k)) :
    wpAny (model pg w) A (eval (.UnaryOp op x pos) env) Q E (S s₀ h k) := wpAny_UnaryOp hq
theorem k_cmp {l r : PySem.Expr} {op : CmpOp} {Q : Value → Shared → Prop}
    (hq : wpAny (model pg w) A (eval l env) (KCmp1 pg w A op (eval r env) Q E) E (S s₀ h k))
    (hm : behindInMarks op r = false := by with_unfolding_all rfl) : wpAny (model pg w) A (eval (.Compare l [op] [r] pos) env) Q E (S s₀ h k) := wpAny_Compare1 hq hm
theorem k_ifexp {test body orelse : PySem.Expr} {Q : Value → Shared → Prop}
    (hq : wpAny (model pg w) A (isTrue test env (eval test env)) (KIfe pg w A body orelse env Q E) E (S s₀ h k)) :
    wpAny (model pg w) A (eval (.IfExp test body orelse pos) env) Q E (S s₀ h k) := wpAny_IfExp (wpAny_mono hq (fun _ _ x => x.ite) fun _ _ x => x)
theorem k_sub {value slice : PySem.Expr} {Q : Value → Shared → Prop}
    (hq : wpAny (model pg w) A (eval value env) (KSub1 pg w A value slice env Q E) E (S s₀ h k)) :
    wpAny (model pg w) A (eval (.Subscript value slice pos) env) Q E (S s₀ h k) := Subscript_ hq
/-! ### tests -/
theorem t_cmp {l r : PySem.Expr} {op : CmpOp} {whole : Sem Value} {Q : Bool → Shared → Prop}
    (hq : wpAny (model pg w) A (eval l env) (KCmp1 pg w A op (eval r env) (KTru pg w A Q E) E) E (S s₀ h k))
    (hm : behindInMarks op r = false := by with_unfolding_all rfl) : wpAny (model pg w) A (isTrue (.Compare l [op] [r] pos) env whole) Q E (S s₀ h k) := wpAny_isTrue_Compare1 hq hm
theorem t_chain {l r₁ r₂ : PySem.Expr} {op₁ op₂ : CmpOp} {whole : Sem Value} {Q : Bool → Shared → Prop}
    (hq : wpAny (model pg w) A (eval l env) (KChain pg w A pos [op₁, op₂] [eval r₁ env, eval r₂ env] Q E) E (S s₀ h k))
    (hm : lastMarks [op₁, op₂] [r₁, r₂] = false := by with_unfolding_all rfl) : wpAny (model pg w) A (isTrue (.Compare l [op₁, op₂] [r₁, r₂] pos) env whole) Q E (S s₀ h k) := isTrue_chain hq hm
theorem t_link {a : Value} {op op' : CmpOp} {r r' : Sem Value} {Q : Bool → Shared → Prop}
    (hq : wpAny (model pg w) A r (KLink1 pg w A pos op op' r' a Q E) E (S s₀ h k)) :
    wpAny (model pg w) A (testChain pos a [op, op'] [r, r']) Q E (S s₀ h k) :=
  test_link (wpAny_mono hq (fun _ _ x => wpAny_mono x (fun _ _ x => wpAny_mono x (fun _ _ x => x.ite) fun _ _ x => x) fun _ _ x => x) fun _ _ x => x)
theorem t_last {a : Value} {op : CmpOp} {r : Sem Value} {Q : Bool → Shared → Prop}
    (hq : wpAny (model pg w) A r (KCmp2 pg w A op a (KTru pg w A Q E) E) E (S s₀ h k)) :
    wpAny (model pg w) A (testChain pos a [op] [r]) Q E (S s₀ h k) := test_last hq
theorem t_not {x : PySem.Expr} {whole : Sem Value} {Q : Bool → Shared → Prop} (hq : wpAny (model pg w) A (isTrue x env (eval x env)) (fun c s' => Q (!c) s') E (S s₀ h k)) :
    wpAny (model pg w) A (isTrue (.UnaryOp .Not x pos) env whole) Q E (S s₀ h k) := isTrue_not hq
theorem t_and {x y : PySem.Expr} {whole : Sem Value} {Q : Bool → Shared → Prop}
    (hq : wpAny (model pg w) A (isTrue x env (eval x env)) (fun c s' => Br c (wpAny (model pg w) A (isTrue y env (eval y env)) Q E s') (Q false s')) E (S s₀ h k)) :
    wpAny (model pg w) A (isTrue (.BoolOp .And [x, y] pos) env whole) Q E (S s₀ h k) :=
  isTrue_and (wpAny_mono hq (fun c s x => by
    cases c
    · rw [if_neg (by decide)]; exact x.2 rfl
    · rw [if_pos rfl]; refine isTrue_and (wpAny_mono (x.1 rfl) (fun b s x => ?_) fun _ _ x => x)
      cases b
      · rw [if_neg (by decide)]; exact x
      · rw [if_pos rfl]; exact isTrue_and_nil x) fun _ _ x => x)
theorem t_or {x y : PySem.Expr} {whole : Sem Value} {Q : Bool → Shared → Prop}
    (hq : wpAny (model pg w) A (isTrue x env (eval x env)) (fun c s' => Br c (Q true s') (wpAny (model pg w) A (isTrue y env (eval y env)) Q E s')) E (S s₀ h k)) :
    wpAny (model pg w) A (isTrue (.BoolOp .Or [x, y] pos) env whole) Q E (S s₀ h k) :=
  isTrue_or (wpAny_mono hq (fun c s x => by
    cases c
    · rw [if_neg (by decide)]; refine isTrue_or (wpAny_mono (x.2 rfl) (fun b s x => ?_) fun _ _ x => x)
      cases b
      · rw [if_neg (by decide)]; exact isTrue_or_nil x
      · rw [if_pos rfl]; exact x
    · rw [if_pos rfl]; exact x.1 rfl) fun _ _ x => x)
theorem t_plain {e : PySem.Expr} {whole : Sem Value} {Q : Bool → Shared → Prop} (hq : wpAny (model pg w) A whole (KTru pg w A Q E) E (S s₀ h k))
    (he : isTrue e env whole = (do let v ← whole; standAt e.pos; holding [v] (truthy v)) := by rfl) : wpAny (model pg w) A (isTrue e env whole) Q E (S s₀ h k) := isTrue_plain hq he
theorem t_bool {b : Bool} {Q : Bool → Shared → Prop} (hq : Q b (S s₀ h k)) : wpAny (model pg w) A (truthy (.bool b)) Q E (S s₀ h k) := wpAny_truthy_bool hq
theorem t_str {l : T} {t : Tok} {Q : Bool → Shared → Prop} (hl : l.length < 2 ^ 60) (hq : ∀ k', Q (decide (l ≠ [])) (S s₀ h k')) : wpAny (model pg w) A (truthy (.str (mkS l) t)) Q E (S s₀ h k) := by
  refine P.truthy_str (s := S s₀ h k) (by rw [mkS_len]; (first | lia | omega)) ?_
  have : (((mkS l).length : Int) != 0) = decide (l ≠ []) := by
    rw [mkS_len]
    cases l with
    | nil => rfl
    | cons c r => simp; (first | lia | omega)
  rw [this]; exact hq _
/-! ### calls -/
theorem k_call {func : PySem.Expr} {args : List PySem.Expr} {Q : Value → Shared → Prop}
    (hq : wpAny (model pg w) A (eval func env) (KCall pg w A pos args env Q E) E (S s₀ h k))
    (he : eval (.Call func args [] pos) env = (do callWith pos (← eval func env) [] (backTo pos (starEach args env)) (backToKw pos (keywordEach [] env))) := by rfl) :
    wpAny (model pg w) A (eval (.Call func args [] pos) env) Q E (S s₀ h k) := Call_ hq he
theorem k_args {e : PySem.Expr} {es : List PySem.Expr} {Q : List Value → Shared → Prop}
    (hq : wpAny (model pg w) A (eval e env) (KArgs pg w A pos es env Q E) E (S s₀ h k))
    (he : starEach (e :: es) env = (false, eval e env) :: starEach es env := by rfl) : wpAny (model pg w) A (spliced (backTo pos (starEach (e :: es) env))) Q E (S s₀ h k) := spliced_more hq he
theorem k_args0 {Q : List Value → Shared → Prop} (hq : Q [] (S s₀ h k)) : wpAny (model pg w) A (spliced (backTo pos (starEach [] env))) Q E (S s₀ h k) := spliced_none hq
theorem k_with_bi {id : String} {e : PySem.Expr} {es : List PySem.Expr} {Q : Value → Shared → Prop}
    (hq : wpAny (model pg w) A (spliced (backTo pos (starEach (e :: es) env))) (KGo0 pg w A (.builtin id) Q E) E (S s₀ h k))
    (he : starEach (e :: es) env = (false, eval e env) :: starEach es env := by rfl) (hplain : (backTo pos (starEach es env)).any (·.1) = false := by rfl) :
    wpAny (model pg w) A (callWith pos (.builtin id) [] (backTo pos (starEach (e :: es) env)) []) Q E (S s₀ h k) := callWith_method1 hq he hplain
theorem k_with_m {id : String} {self : Value} {e : PySem.Expr} {es : List PySem.Expr} {Q : Value → Shared → Prop}
    (hq : wpAny (model pg w) A (spliced (backTo pos (starEach (e :: es) env))) (KGo1 pg w A (.builtin id) self Q E) E (S s₀ h k))
    (he : starEach (e :: es) env = (false, eval e env) :: starEach es env := by rfl) (hplain : (backTo pos (starEach es env)).any (·.1) = false := by rfl) :
    wpAny (model pg w) A (callWith pos (.builtin id) [self] (backTo pos (starEach (e :: es) env)) []) Q E (S s₀ h k) := callWith_method1 hq he hplain
theorem k_with_bi0 {id : String} {first : List Value} {Q : Value → Shared → Prop} (hq : wpAny (model pg w) A (call (.builtin id) first) Q E (S s₀ h k)) :
    wpAny (model pg w) A (callWith pos (.builtin id) first (backTo pos (starEach [] env)) []) Q E (S s₀ h k) := callWith_method0 hq
theorem k_with_ty {T : String} {e : PySem.Expr} {es : List PySem.Expr} {Q : Value → Shared → Prop}
    (hq : wpAny (model pg w) A (spliced (backTo pos (starEach (e :: es) env))) (KGo0 pg w A (.type T) Q E) E (S s₀ h k))
    (he : starEach (e :: es) env = (false, eval e env) :: starEach es env := by rfl) (hplain : (backTo pos (starEach es env)).any (·.1) = false := by rfl) :
    wpAny (model pg w) A (callWith pos (.type T) [] (backTo pos (starEach (e :: es) env)) []) Q E (S s₀ h k) := Pv.callWith_type1 hq he hplain
/-- a def of the text's: the object stays -/
theorem k_with_fn {f : Addr} {i : Nat} {dV : List Value} {e : PySem.Expr} {es : List PySem.Expr} {Q : Value → Shared → Prop} (H : FnIs h₀ i f dV)
    (hq : wpAny (model pg w) A (spliced (backTo pos (starEach (e :: es) env))) (fun vs s₁ => (∃ h' k', s₁ = S s₀ h' k' ∧ Ext h₀ h') ∧ wpAny (model pg w) A (call (.ref f) vs) Q E s₁) E (S s₀ h k))
    (he : starEach (e :: es) env = (false, eval e env) :: starEach es env := by rfl) :
    wpAny (model pg w) A (callWith pos (.ref f) [] (backTo pos (starEach (e :: es) env)) []) Q E (S s₀ h k) := by
  obtain ⟨o, dv, kV, doc, pm, an, cdv, ct, h1, h2, _⟩ := H
  refine callWith_def h2 (wpAny_mono hq (fun vs s₁ x => ?_) fun _ _ x => x) he
  obtain ⟨⟨h', k', rfl, x1⟩, x2⟩ := x
  exact ⟨x1 _ _ h1, x2⟩
theorem look_lookup (l : List (Str × Value)) (x : Str) : l.lookup x = look l x := by
  induction l with
  | nil => rfl
  | cons p r ih =>
    obtain ⟨n, v⟩ := p
    rw [List.lookup_cons]
    unfold look
    by_cases e : x = n
    · subst e; simp
    · rw [beq_false_of_ne e, if_neg e, ih]
/-- a def without cells is entered -/
theorem k_enter {i : Nat} {f : Addr} {dV args : List Value} {Q : Value → Shared → Prop} {n : Nat} {body : List Stmt} {scope : Scope} {params : Arguments} (binds : List (Str × Value)) (G : Glb d mg mb h) (H : FnIs h i f dV) (hA : AOk A (n + 1))
    (hp : fparams i = params) (hb : fbody i = body) (hs : fscope i = scope)
    (hbind : ∀ dv kV doc pm an cdv ct, (dV = [] → dv = .none) → (dV ≠ [] → ∃ T oT n, dv = .ref T ∧ h.get? T = some oT ∧ oT.data = .seq dV.toArray n) → BindsTo (S s₀ h k) (fnOf (fname i) (fname i) params body scope dv kV doc pm an cdv ct) ⟨args, []⟩ binds)
    (hcell : ∀ x ∈ scope.names, x.2 ≠ .cell) (hloc : ∀ x ∈ binds, scope.names.lookup x.1 = some .local) (hco : scope.isCoroutine = false) (hgen : scope.isGenerator = false) (hk : scope.kind = .function)
    (hbody : ∀ (h₁ : Heap) (k₁ : Nat) (L : Addr) (cdv : Value) (A' : Around) (Qf : Flow → Shared → Prop), AOk A' n →
      (∀ v h' k', Q v (S s₀ h' k') → Qf (.ret v) (S s₀ h' k')) → Fr h L h₁ (look binds.reverse) → News h L h₁ [] →
      wpAny (model prog w) A' (execs body (envX (fname i) scope L f cdv [])) Qf (fun _ _ => False) (S s₀ h₁ k₁)) :
    wpAny (model prog w) A (call (.ref f) args) Q E (S s₀ h k) := by
  refine fn_enter binds G H hA hp hb hs hbind hcell hloc hco hgen hk (fun h₁ L cdv A' Qf Ef hA' hR _ F N => ?_)
  have e : (fun x => binds.reverse.lookup x) = look binds.reverse := funext fun x => look_lookup _ x
  rw [e] at F
  exact wpAny_mono (hbody h₁ _ L cdv A' Qf hA' (fun v h' k' q => hR v _ q) F N) (fun _ _ x => x) fun _ _ x => x.elim
end
end Ku
end
section
open PySem PySem.W PyProof.Rows
namespace Ku
theorem l_tab : Str.ofString "\t" = mkS [9] := by decide
theorem l_sp : Str.ofString " " = mkS [32] := by decide
theorem l_tilde : Str.ofString "~" = mkS [126] := by decide
theorem l_eq : Str.ofString "=" = mkS [61] := by decide
theorem l_empty : Str.ofString "" = mkS [] := by decide
theorem l_hex : Str.ofString "0123456789ABCDEF" = mkS [48, 49, 50, 51, 52, 53, 54, 55, 56, 57, 65, 66, 67, 68, 69, 70] := by decide
theorem l_n : Str.ofString "n" = mkS [110] := by decide
theorem l_dot : Str.ofString "." = mkS [46] := by decide
theorem l_20 : Str.ofString "=20" = mkS [61, 50, 48] := by decide
theorem l_09 : Str.ofString "=09" = mkS [61, 48, 57] := by decide
theorem l_nl : Str.ofString "\n" = mkS [10] := by decide
theorem l_cr : Str.ofString "\r" = mkS [13] := by decide
theorem l_crlf : Str.ofString "\r\n" = mkS [13, 10] := by decide
theorem l_sptab : Str.ofString " \t" = mkS [32, 9] := by decide
theorem l_eqnl : Str.ofString "=\n" = mkS [61, 10] := by decide
theorem l_getitem : Str.ofString "__getitem__" = mkS [95, 95, 103, 101, 116, 105, 116, 101, 109, 95, 95] := by decide
theorem l_msg : Str.ofString "maxlinelen must be at least 4" = mkS [109, 97, 120, 108, 105, 110, 101, 108, 101, 110, 32, 109, 117, 115, 116, 32, 98, 101, 32, 97, 116, 32, 108, 101, 97, 115, 116, 32, 52] := by decide
theorem l_hexd : Str.ofString "0123456789abcdefABCDEF" = mkS [48, 49, 50, 51, 52, 53, 54, 55, 56, 57, 97, 98, 99, 100, 101, 102, 65, 66, 67, 68, 69, 70] := by decide
section
variable {pg : Program} {w : World} {A : Around} {E : Value → Shared → Prop} {s₀ : Shared} {h h₀ : Heap} {k : Nat} {a b : Int} {l r : T} {t u : Tok} {L : Addr} {vals : List (Str × Value)} {news : List (Addr × Obj)} {m : Str → Option Value}
/-! ### ints -/
theorem o_add {Q : Value → Shared → Prop} (hq : ∀ t k', Q (.int (a + b) t) (S s₀ h k')) : wpAny (model pg w) A (binaryOp .Add (.int a t) (.int b u)) Q E (S s₀ h k) := P.add_int (s := S s₀ h k) (hq _ _)
theorem o_sub {Q : Value → Shared → Prop} (hq : ∀ t k', Q (.int (a - b) t) (S s₀ h k')) : wpAny (model pg w) A (binaryOp .Sub (.int a t) (.int b u)) Q E (S s₀ h k) := P.sub_int (s := S s₀ h k) (hq _ _)
theorem o_iadd {Q : Value → Shared → Prop} (hq : ∀ t k', Q (.int (a + b) t) (S s₀ h k')) : wpAny (model pg w) A (inplaceOp .Add (.int a t) (.int b u)) Q E (S s₀ h k) := P.iadd_int (s := S s₀ h k) (hq _ _)
theorem o_mul {Q : Value → Shared → Prop} (ha : a.natAbs < 2 ^ 30) (_hb : b.natAbs < 2 ^ 30) (hq : ∀ t k', Q (.int (a * b) t) (S s₀ h k')) : wpAny (model pg w) A (binaryOp .Mult (.int a t) (.int b u)) Q E (S s₀ h k) := P.mul_int (s := S s₀ h k) (hq _ _)
theorem o_div {Q : Value → Shared → Prop} (hb : 0 < b) (hs : b.natAbs < 1073741824) (hq : ∀ t k', Q (.int (a / b) t) (S s₀ h k')) : wpAny (model pg w) A (binaryOp .FloorDiv (.int a t) (.int b u)) Q E (S s₀ h k) := by
  refine floordiv_int (s := S s₀ h k) (by (first | lia | omega)) ?_ (.inl (PyProof.noPylong_small hs))
  rw [Int.fdiv_eq_ediv_of_nonneg a (by (first | lia | omega))]; exact hq _ _
theorem o_mod {Q : Value → Shared → Prop} (hb : 0 < b) (hq : ∀ t k', Q (.int (a % b) t) (S s₀ h k')) : wpAny (model pg w) A (binaryOp .Mod (.int a t) (.int b u)) Q E (S s₀ h k) := by
  refine mod_int' (s := S s₀ h k) (by (first | lia | omega)) ?_
  rw [Int.fmod_eq_emod_of_nonneg a (by (first | lia | omega))]; exact hq _ _
theorem o_pow {n : Int} {Q : Value → Shared → Prop} (hn : 0 ≤ n) (hsz : (Builtin.Int.intBits a : Int) * n ≤ 2 ^ 27) (hq : ∀ t k', Q (.int (a ^ n.toNat) t) (S s₀ h k')) : wpAny (model pg w) A (binaryOp .Pow (.int a t) (.int n u)) Q E (S s₀ h k) := pow_int (s := S s₀ h k) hn hsz (hq _ _)
theorem o_neg {Q : Value → Shared → Prop} (hq : ∀ t k', Q (.int (-a) t) (S s₀ h k')) : wpAny (model pg w) A (unaryOp .USub (.int a t)) Q E (S s₀ h k) := P.neg_int (s := S s₀ h k) (hq _ _)
theorem o_eq {Q : Value → Shared → Prop} (hq : Q (.bool (decide (a = b))) (S s₀ h k)) : wpAny (model pg w) A (compareOp .Eq (.int a t) (.int b u)) Q E (S s₀ h k) := P.eq_int hq
theorem o_ne {Q : Value → Shared → Prop} (hq : Q (.bool (decide (a ≠ b))) (S s₀ h k)) : wpAny (model pg w) A (compareOp .NotEq (.int a t) (.int b u)) Q E (S s₀ h k) := by
  refine P.ne_int ?_
  have : (a != b) = decide (a ≠ b) := by by_cases e : a = b <;> simp [e]
  rw [this]; exact hq
theorem o_lt {Q : Value → Shared → Prop} (hq : Q (.bool (decide (a < b))) (S s₀ h k)) : wpAny (model pg w) A (compareOp .Lt (.int a t) (.int b u)) Q E (S s₀ h k) := P.lt_int hq
theorem o_le {Q : Value → Shared → Prop} (hq : Q (.bool (decide (a ≤ b))) (S s₀ h k)) : wpAny (model pg w) A (compareOp .LtE (.int a t) (.int b u)) Q E (S s₀ h k) := P.le_int hq
theorem o_gt {Q : Value → Shared → Prop} (hq : Q (.bool (decide (b < a))) (S s₀ h k)) : wpAny (model pg w) A (compareOp .Gt (.int a t) (.int b u)) Q E (S s₀ h k) := P.gt_int hq
theorem o_ge {Q : Value → Shared → Prop} (hq : Q (.bool (decide (b ≤ a))) (S s₀ h k)) : wpAny (model pg w) A (compareOp .GtE (.int a t) (.int b u)) Q E (S s₀ h k) := P.ge_int hq
/-! ### texts -/
theorem o_seq {Q : Value → Shared → Prop} (hq : Q (.bool (decide (l = r))) (S s₀ h k)) : wpAny (model pg w) A (compareOp .Eq (.str (mkS l) t) (.str (mkS r) u)) Q E (S s₀ h k) := by
  refine P.eq_str ?_
  rw [mkS_toList, mkS_toList]
  have : (l == r) = decide (l = r) := by by_cases e : l = r <;> simp [e]
  rw [this]; exact hq
theorem o_sne {Q : Value → Shared → Prop} (hq : Q (.bool (decide (l ≠ r))) (S s₀ h k)) : wpAny (model pg w) A (compareOp .NotEq (.str (mkS l) t) (.str (mkS r) u)) Q E (S s₀ h k) := by
  refine P.ne_str ?_
  rw [mkS_toList, mkS_toList]
  have : (l != r) = decide (l ≠ r) := by by_cases e : l = r <;> simp [e]
  rw [this]; exact hq
/-- one sign and one sign -/
theorem o_sle {x y : Nat} {Q : Value → Shared → Prop} (hq : Q (.bool (decide (x ≤ y))) (S s₀ h k)) : wpAny (model pg w) A (compareOp .LtE (.str (mkS [x]) t) (.str (mkS [y]) u)) Q E (S s₀ h k) := by
  refine P.le_str ?_
  rw [mkS_toList, mkS_toList]
  have : (!decide (([y] : List Nat) < [x])) = decide (x ≤ y) := by
    rw [StrLaws.lt_cons_cons, StrLaws.lt_nil_nil, Bool.and_false, Bool.or_false]
    by_cases q : x ≤ y
    · rw [decide_eq_true q, decide_eq_false (by (first | lia | omega))]; rfl
    · rw [decide_eq_false q, decide_eq_true (by (first | lia | omega))]; rfl
  rw [this]; exact hq
theorem made_cat {x y : Str} {Q : Value → Shared → Prop} (hsz : x.length + y.length ≤ sizeLine) (hq : ∀ t k', Q (.str (x ++ y) t) (S s₀ h k')) :
    (if x.length == 0 then Made.val (.str y u) else if y.length == 0 then Made.val (.str x t) else Made.str (x ++ y)).post Q (S s₀ h k) := by
  by_cases hx : x.length = 0
  · rw [if_pos (by simpa using hx)]
    have e : x ++ y = y := by
      apply Str.ext'
      show x.cps ++ y.cps = y.cps
      have : x.cps = #[] := by simpa [Str.length] using hx
      rw [this]; simp
    rw [e] at hq
    exact hq u k
  · rw [if_neg (by simpa using hx)]
    by_cases hy : y.length = 0
    · rw [if_pos (by simpa using hy)]
      have e : x ++ y = x := by
        apply Str.ext'
        show x.cps ++ y.cps = x.cps
        have : y.cps = #[] := by simpa [Str.length] using hy
        rw [this]; simp
      rw [e] at hq
      exact hq t k
    · rw [if_neg (by simpa using hy)]
      exact ⟨by rw [Str.length_append]; exact hsz, hq _ _⟩
theorem o_cat {Q : Value → Shared → Prop} (hsz : l.length + r.length ≤ 10000) (hq : ∀ t k', Q (.str (mkS (l ++ r)) t) (S s₀ h k')) : wpAny (model pg w) A (binaryOp .Add (.str (mkS l) t) (.str (mkS r) u)) Q E (S s₀ h k) :=
  P.add_str (made_cat (by rw [mkS_len, mkS_len]; unfold sizeLine; (first | lia | omega)) (by rw [mkS_append]; exact hq))
theorem o_icat {Q : Value → Shared → Prop} (hsz : l.length + r.length ≤ 10000) (hq : ∀ t k', Q (.str (mkS (l ++ r)) t) (S s₀ h k')) : wpAny (model pg w) A (inplaceOp .Add (.str (mkS l) t) (.str (mkS r) u)) Q E (S s₀ h k) :=
  P.iadd_str (made_cat (by rw [mkS_len, mkS_len]; unfold sizeLine; (first | lia | omega)) (by rw [mkS_append]; exact hq))
/-- one sign in a text -/
theorem o_sin {c : Nat} {Q : Value → Shared → Prop} (hq : Q (.bool (decide (c ∈ l))) (S s₀ h k)) : wpAny (model pg w) A (compareOp .In (.str (mkS [c]) t) (.str (mkS l) u)) Q E (S s₀ h k) := by
  refine P.in_str ?_
  have e : (!(Builtin.Str.occurrences (mkS l) (mkS [c]) 0 (mkS l).length 1).isEmpty) = decide (c ∈ l) := StrLaws.found_one (mkS l) c
  rw [e]; exact hq
theorem o_len {Q : Value → Shared → Prop} (hl : l.length < 2 ^ 60) (hq : ∀ t k', Q (.int (l.length : Nat) t) (S s₀ h k')) : wpAny (model pg w) A (call (.builtin "len") [.str (mkS l) t]) Q E (S s₀ h k) := by
  refine P.len_str (s := S s₀ h k) (by rw [mkS_len]; (first | lia | omega)) ?_
  rw [mkS_len]; exact hq _ _
theorem o_ord {c : Nat} {Q : Value → Shared → Prop} (hq : ∀ t k', Q (.int (c : Nat) t) (S s₀ h k')) : wpAny (model pg w) A (call (.builtin "ord") [.str (mkS [c]) t]) Q E (S s₀ h k) :=
  P.ord_of_char (s := S s₀ h k) (hq _ _)
theorem o_chr {c : Nat} {Q : Value → Shared → Prop} (hc : c < 1000) (hq : ∀ t k', Q (.str (mkS [c]) t) (S s₀ h k')) : wpAny (model pg w) A (call (.builtin "chr") [.int (c : Int) t]) Q E (S s₀ h k) := by
  refine P.chr_of_int (s := S s₀ h k) ?_ ?_
  · rw [decide_eq_false (by (first | lia | omega)), decide_eq_false (by (first | lia | omega))]; rfl
  · exact hq _ _
theorem o_item {value slice : PySem.Expr} {i : Int} {c : Nat} {Q : Value → Shared → Prop} (n : Nat) (hi : i = (n : Int)) (hc : l[n]? = some c) (hl : l.length < 2 ^ 60) (hq : ∀ t k', Q (.str (mkS [c]) t) (S s₀ h k'))
    (hs : subscripted slice false (.str (mkS l) t) (.int i u) = operate [.str (mkS l) t, .int i u] (getItem (.str (mkS l) t) (.int i u)) := by with_unfolding_all rfl)
    (ht : ∀ r, letTemporaryGo value (.str (mkS l) t) r = pure () := by intro _; with_unfolding_all rfl) :
    wpAny (model pg w) A (subscriptTail value slice (.str (mkS l) t) (.int i u)) Q E (S s₀ h k) :=
  item_nat (s := S s₀ h k) n hi hc (by (first | lia | omega)) (fun t k' => hq t k') hs ht
theorem o_last {value slice : PySem.Expr} {c : Nat} {Q : Value → Shared → Prop} (hc : l.getLast? = some c) (hq : ∀ t k', Q (.str (mkS [c]) t) (S s₀ h k'))
    (hs : subscripted slice false (.str (mkS l) t) (.int (-1) u) = operate [.str (mkS l) t, .int (-1) u] (getItem (.str (mkS l) t) (.int (-1) u)) := by with_unfolding_all rfl)
    (ht : ∀ r, letTemporaryGo value (.str (mkS l) t) r = pure () := by intro _; with_unfolding_all rfl) :
    wpAny (model pg w) A (subscriptTail value slice (.str (mkS l) t) (.int (-1) u)) Q E (S s₀ h k) :=
  item_last (s := S s₀ h k) hc (fun t k' => hq t k') hs ht
/-! ### slices of texts: the slice object is made and read at once -/
theorem o_slice {lo hi : Option PySem.Expr} {env : Env} {p : Pos} {value : PySem.Expr} {Q : Value → Shared → Prop} 
    (hq : wpAny (model pg w) A (evalPart lo env) (fun lv s₁ => wpAny (model pg w) A (evalPart hi env) (fun uv s₂ => ∃ h' k' y, s₂ = S s₀ h' k' ∧ Fr h₀ L h' m ∧ News h₀ L h' news ∧
      ((∃ i ui, lv = .int i ui ∧ ∃ j uj, uv = .int j uj ∧ Txt.slice (mkS l) (some i) (some j) = mkS y) ∨ (∃ i ui, lv = .int i ui ∧ uv = .none ∧ Txt.slice (mkS l) (some i) none = mkS y) ∨
        (lv = .none ∧ ∃ j uj, uv = .int j uj ∧ Txt.slice (mkS l) none (some j) = mkS y)) ∧
      (∀ t h'' k'', Fr h₀ L h'' m → News h₀ L h'' news → Q (.str (mkS y) t) (S s₀ h'' k''))) E s₁) E (S s₀ h k))
    (hl : l.length ≤ 10000)
    (hs : ∀ i, subscripted (.Slice lo hi none p) false (.str (mkS l) t) (.ref i) = operate [.ref i, .str (mkS l) t] (getItem (.str (mkS l) t) (.ref i)) := by intro _; with_unfolding_all rfl)
    (ht : ∀ r, letTemporaryGo value (.str (mkS l) t) r = pure () := by intro _; with_unfolding_all rfl) :
    wpAny (model pg w) A (eval (.Slice lo hi none p) env) (fun i s₂ => wpAny (model pg w) A (subscriptTail value (.Slice lo hi none p) (.str (mkS l) t) i) Q E s₂) E (S s₀ h k) := by
  have hsz : (mkS l).length ≤ sizeLine := by rw [mkS_len]; unfold sizeLine; (first | lia | omega)
  refine wpAny_Slice (wpAny_mono hq (fun lv s₁ x => wpAny_mono x (fun uv s₂ x => evalPart_none_step ?_) fun _ _ x => x) fun _ _ x => x)
  obtain ⟨h', k', y, rfl, F', N', hc, hd⟩ := x
  rcases hc with ⟨i, ui, rfl, j, uj, rfl, e⟩ | ⟨i, ui, rfl, rfl, e⟩ | ⟨rfl, j, uj, rfl, e⟩
  · exact slice_strN_ss (s := S s₀ h' k') F' N' (fun h'' t' k'' a b => by rw [e]; exact hd t' h'' k'' a b) (hs _) ht hsz
  · exact slice_strN_sn (s := S s₀ h' k') F' N' (fun h'' t' k'' a b => by rw [e]; exact hd t' h'' k'' a b) (hs _) ht hsz
  · exact slice_strN_ns (s := S s₀ h' k') F' N' (fun h'' t' k'' a b => by rw [e]; exact hd t' h'' k'' a b) (hs _) ht hsz
theorem k_part {e : PySem.Expr} {env : Env} {Q : Value → Shared → Prop} (hq : wpAny (model pg w) A (eval e env) Q E (S s₀ h k)) : wpAny (model pg w) A (evalPart (some e) env) Q E (S s₀ h k) := hq
theorem k_part0 {env : Env} {Q : Value → Shared → Prop} (hq : Q .none (S s₀ h k)) : wpAny (model pg w) A (evalPart none env) Q E (S s₀ h k) := evalPart_none_step hq
end
end Ku
end
section
open PySem PySem.W PyProof.Rows
namespace Ku
/-- the end of a turn -/
noncomputable def TurnEnd (s₀ : Shared) (h₀ : Heap) (L : Addr) (adr : List Addr) (own : List (Addr × Obj)) (J : List (Str × Value) → List (Addr × Obj) → Prop) (Q : Flow → Shared → Prop) (f : Flow) (s₂ : Shared) : Prop :=
  match f with
  | .ret v => Q (.ret v) s₂
  | .brk => Q .next s₂
  | _ => ∃ h' k' vals' news', s₂ = S s₀ h' k' ∧ Fr h₀ L h' (look vals') ∧ News h₀ L h' (own ++ news') ∧ news'.map (·.1) = adr ∧ J vals' news'
noncomputable abbrev NoE : Value → Shared → Prop := fun _ _ => False
section
variable {pg : Program} {w : World} {A : Around} {s₀ : Shared} {h h₀ : Heap} {k : Nat} {cn : Str} {cs : Scope} {L a : Addr} {ccd : Value} {cl : List (Str × Addr)} {vals : List (Str × Value)} {news : List (Addr × Obj)} {pos px : Pos}
theorem te_next {adr : List Addr} {own : List (Addr × Obj)} {J : List (Str × Value) → List (Addr × Obj) → Prop} {Q : Flow → Shared → Prop} {news' : List (Addr × Obj)} {h' : Heap} {k' : Nat} {vals' : List (Str × Value)}
    (F : Fr h₀ L h' (look vals')) (N : News h₀ L h' (own ++ news')) (ha : news'.map (·.1) = adr) (hJ : J vals' news') : TurnEnd s₀ h₀ L adr own J Q .next (S s₀ h' k') := ⟨h', k', vals', news', rfl, F, N, ha, hJ⟩
theorem te_cont {adr : List Addr} {own : List (Addr × Obj)} {J : List (Str × Value) → List (Addr × Obj) → Prop} {Q : Flow → Shared → Prop} {news' : List (Addr × Obj)} {h' : Heap} {k' : Nat} {vals' : List (Str × Value)}
    (F : Fr h₀ L h' (look vals')) (N : News h₀ L h' (own ++ news')) (ha : news'.map (·.1) = adr) (hJ : J vals' news') : TurnEnd s₀ h₀ L adr own J Q .cont (S s₀ h' k') := ⟨h', k', vals', news', rfl, F, N, ha, hJ⟩
theorem te_ret {adr : List Addr} {own : List (Addr × Obj)} {J : List (Str × Value) → List (Addr × Obj) → Prop} {Q : Flow → Shared → Prop} {s : Shared} {v : Value} (hq : Q (.ret v) s) : TurnEnd s₀ h₀ L adr own J Q (.ret v) s := hq
/-- a while by an invariant and a measure -/
theorem k_while {test : PySem.Expr} {body : List Stmt} {Q : Flow → Shared → Prop} {env : Env} (J : Nat → List (Str × Value) → List (Addr × Obj) → Prop) {n₀ : Nat} (F : Fr h₀ L h (look vals)) (N : News h₀ L h news) (hJ : J n₀ vals news)
    (turn : ∀ n vals₁ news₁ h₁ k₁, Fr h₀ L h₁ (look vals₁) → News h₀ L h₁ news₁ → news₁.map (·.1) = news.map (·.1) → J n vals₁ news₁ →
      wpAny (model pg w) A (isTrue test env (eval test env)) (fun b s₂ => Br b
        (wpAny (model pg w) A (execs body env) (TurnEnd s₀ h₀ L (news.map (·.1)) [] (fun v' n' => ∃ m, m < n ∧ J m v' n') Q) NoE s₂) (Q .next s₂)) NoE (S s₀ h₁ k₁)) :
    wpAny (model pg w) A (exec (.While test body [] pos) env) Q NoE (S s₀ h k) := by
  refine wpAny_While (codeAny_whileLoop (fun n s' => ∃ h₁ k₁ vals₁ news₁, s' = S s₀ h₁ k₁ ∧ Fr h₀ L h₁ (look vals₁) ∧ News h₀ L h₁ news₁ ∧ news₁.map (·.1) = news.map (·.1) ∧ J n vals₁ news₁) ?_ n₀ ⟨h, k, vals, news, rfl, F, N, rfl, hJ⟩)
  rintro n s' ⟨h₁, k₁, vals₁, news₁, rfl, F₁, N₁, a₁, J₁⟩
  refine wpAny_mono (turn n vals₁ news₁ h₁ k₁ F₁ N₁ a₁ J₁) (fun b s₂ x => ?_) fun _ _ x => x.elim
  cases b with
  | false =>
    rw [if_neg (by decide)]
    exact wpAny_execs_nil (x.2 rfl)
  | true =>
    rw [if_pos rfl]
    refine wpAny_mono (x.1 rfl) (fun f s₃ x₃ => ?_) fun _ _ x => x.elim
    cases f with
    | ret v => exact x₃
    | brk => exact x₃
    | next => obtain ⟨h', k', v', n', rfl, F', N', ha, m, hm, hJ'⟩ := x₃; exact ⟨m, hm, h', k', v', n', rfl, F', N', ha, hJ'⟩
    | cont => obtain ⟨h', k', v', n', rfl, F', N', ha, m, hm, hJ'⟩ := x₃; exact ⟨m, hm, h', k', v', n', rfl, F', N', ha, hJ'⟩
/-- what a for over an iterator asks -/
noncomputable def ForAt (pg : Program) (w : World) (A : Around) (s₀ : Shared) (h₀ : Heap) (env : Env) (L : Addr) (x : Str) (body : List Stmt) (Q : Flow → Shared → Prop) (it : Value) (s₂ : Shared) : Prop :=
  ∃ (I : Addr) (fp wr : List Addr) (n : Nat) (P : Nat → Value → Prop) (St : Nat → Heap → Prop) (vals : List (Str × Value)) (news : List (Addr × Obj)) (J : Nat → List (Str × Value) → List (Addr × Obj) → Prop) (h₂ : Heap) (k₂ : Nat),
    it = .ref I ∧ s₂ = S s₀ h₂ k₂ ∧ Walks pg w A I fp wr n P St ∧ L ∉ fp ∧ (∀ b ∈ wr, h₀.get? b = none) ∧ (∀ p ∈ news, p.1 ∉ fp) ∧ St 0 h₂ ∧ Fr h₀ L h₂ (look vals) ∧ News h₀ L h₂ news ∧ J 0 vals news ∧
    (∀ i v vals₁ news₁ own h₁ k₁, i < n → P i v → J i vals₁ news₁ → news₁.map (·.1) = news.map (·.1) → (∀ p ∈ own, ∀ q ∈ news₁, p.1 ≠ q.1) → Fr h₀ L h₁ (look ((x, v) :: vals₁)) → News h₀ L h₁ (own ++ news₁) →
      wpAny (model pg w) A (execs body env) (TurnEnd s₀ h₀ L (news.map (·.1)) own (J (i + 1)) Q) NoE (S s₀ h₁ k₁)) ∧
    ∀ h' k' vals' news', Fr h₀ L h' (look vals') → News h₀ L h' news' → news'.map (·.1) = news.map (·.1) → J n vals' news' → Q .next (S s₀ h' k')
theorem k_for {x : Str} {iter : PySem.Expr} {body : List Stmt} {Q : Flow → Shared → Prop} (h₀ : Heap) (hx : (envX cn cs L a ccd cl).kindOf x = some .local) (hk : cs.kind = .function)
    (hq : wpAny (model pg w) A (eval iter (envX cn cs L a ccd cl)) (fun xv s₁ => wpAny (model pg w) A (pyIter xv) (fun it s₂ => ForAt pg w A s₀ h₀ (envX cn cs L a ccd cl) L x body Q it s₂) NoE s₁) NoE (S s₀ h k))
    (hs : ∀ x, foldedSetIterable iter (envX cn cs L a ccd cl) x = pure x := by intro _; rfl) :
    wpAny (model pg w) A (exec (.For (.Name x px) iter body [] pos) (envX cn cs L a ccd cl)) Q NoE (S s₀ h k) := by
  refine For_invV h₀ hx (by show (cs.kind == .class || (cs.kind == .module && L != mainGlobals)) = false; rw [hk]; rfl) (wpAny_mono hq (fun xv s₁ x₁ => wpAny_mono x₁ (fun it s₂ x₂ => ?_) fun _ _ x => x) fun _ _ x => x) hs PassesOwn.never
  obtain ⟨I, fp, wr, n, P, St, vals, news, J, h₂, k₂, rfl, rfl, W, hLf, hwr, hnf, hst, F, N, h0, step, done⟩ := x₂
  have nw : ∀ nn : List (Addr × Obj), nn.map (·.1) = news.map (·.1) → ∀ p ∈ nn, p.1 ∉ fp := fun nn e p hp => by
    have : p.1 ∈ news.map (·.1) := e ▸ List.mem_map_of_mem hp
    obtain ⟨q, hq, e'⟩ := List.mem_map.mp this
    exact e' ▸ hnf q hq
  refine ⟨I, fp, wr, n, P, St, look vals, news, fun i m nn => ∃ v', m = look v' ∧ nn.map (·.1) = news.map (·.1) ∧ J i v' nn, rfl, W, hLf, hwr, fun p hp hw => hnf p hp (W.sub _ hw), hst, F, N, ⟨vals, rfl, rfl, h0⟩, ?_, ?_⟩
  · rintro i v m₁ news₁ s₁ own ⟨h₁, k₁, rfl⟩ hi hP ⟨v₁, rfl, ha, hJ⟩ _ hof _ _ _ F₁ N₁
    refine wpAny_mono (step i v v₁ news₁ own h₁ k₁ hi hP hJ ha (fun p hp q hq e => nw news₁ ha q hq (e ▸ hof p hp)) F₁ N₁) (fun f s₃ x₃ => ?_) fun _ _ x => x
    have fin : (∃ h' k' vals' news', s₃ = S s₀ h' k' ∧ Fr h₀ L h' (look vals') ∧ News h₀ L h' (own ++ news') ∧ news'.map (·.1) = news.map (·.1) ∧ J (i + 1) vals' news') →
        LoopStepU h₀ L wr own (fun m nn => ∃ v', m = look v' ∧ nn.map (·.1) = news.map (·.1) ∧ J (i + 1) v' nn) { S s₀ h₂ k₂ with heap := h₁, toks := k₁ } .next s₃ := by
      rintro ⟨h', k', v', n', rfl, F', N', ha', hJ'⟩
      exact ⟨rfl, h', k', look v', n', rfl, F', N', fun p hp hw => nw n' ha' p hp (W.sub _ hw), v', rfl, ha', hJ'⟩
    cases f with
    | ret v => exact x₃
    | brk => exact x₃
    | next => exact fin x₃
    | cont => exact fin x₃
  · rintro h' tk m' news' F' N' _ ⟨v', rfl, ha, hJ⟩
    exact done h' tk v' news' F' N' ha hJ
/-- over a list that stands -/
theorem for_list {x : Str} {body : List Stmt} {Q : Flow → Shared → Prop} {env : Env} {l : Addr} {vs : List Value} (hA : A.handled = none) (hl : h.IsList l vs.toArray) (hL : l ≠ L) (hln : ∀ p ∈ news, p.1 ≠ l)
    (F : Fr h₀ L h (look vals)) (N : News h₀ L h news) (J : Nat → List (Str × Value) → List (Addr × Obj) → Prop) (h0 : J 0 vals news)
    (turn : ∀ i v vals₁ news₁ own h₁ k₁, vs[i]? = some v → J i vals₁ news₁ → news₁.map (·.1) = news.map (·.1) → (∀ p ∈ own, ∀ q ∈ news₁, p.1 ≠ q.1) → Fr h₀ L h₁ (look ((x, v) :: vals₁)) → News h₀ L h₁ (own ++ news₁) →
      wpAny (model pg w) A (execs body env) (TurnEnd s₀ h₀ L (news.map (·.1)) own (J (i + 1)) Q) NoE (S s₀ h₁ k₁))
    (done : ∀ h' k' vals' news', Fr h₀ L h' (look vals') → News h₀ L h' news' → news'.map (·.1) = news.map (·.1) → J vs.length vals' news' → Q .next (S s₀ h' k')) :
    wpAny (model pg w) A (pyIter (.ref l)) (fun it s₂ => ForAt pg w A s₀ h₀ env L x body Q it s₂) NoE (S s₀ h k) := by
  obtain ⟨ol, hol, _⟩ := id hl
  have hlt : l < h.objs.size := Heap.lt_size hol
  refine wpAny_pyIter_list (s := S s₀ h k) hl ?_
  have W := Walks.list (prog := pg) (w := w) hA h.objs.size l (Nat.ne_of_lt hlt) vs.toArray
  rw [List.size_toArray] at W
  refine ⟨h.objs.size, _, _, vs.length, _, _, vals, news, J, h.push { cls := .type "list_iterator", data := .fields #[.ref l, .int 0 0] }, k, rfl, rfl, W, ?_, ?_, ?_, ⟨⟨_, Heap.get?_push_size _ rfl, rfl, rfl⟩, hl.at fun o e => Heap.get?_push_of_some _ e⟩, F.push _,
    (fun p hp => ⟨Heap.get?_push_of_some _ (N p hp).1, (N p hp).2⟩), h0, ?_, done⟩
  · intro hm
    rcases List.mem_cons.mp hm with e | hm
    · exact absurd F.ns.lt (e ▸ Nat.lt_irrefl _)
    · exact hL (List.mem_singleton.mp hm).symm
  · intro b hb
    rw [List.mem_singleton.mp hb]
    cases hq : h₀.get? h.objs.size with
    | none => rfl
    | some o' => exact absurd (Heap.lt_size (F.keep _ _ hq)) (Nat.lt_irrefl _)
  · intro p hp hm
    rcases List.mem_cons.mp hm with e | hm
    · exact absurd (Heap.lt_size (N p hp).1) (e ▸ Nat.lt_irrefl _)
    · exact hln p hp (List.mem_singleton.mp hm)
  · intro i v vals₁ news₁ own h₁ k₁ _ hP
    exact turn i v vals₁ news₁ own h₁ k₁ (by simpa using hP)
end
end Ku
end
section
open PySem PySem.W PyProof.Rows
open PySem PySem.W PyProof.Rows PySem.Calls
namespace Ku
theorem md_get : Slot "method_descriptor" "__get__" "method_descriptor.__get__" :=
  .of (owner := "method_descriptor") (n := "__get__") (by rw [typeLookup_type, builtinLookup_eq_fast]; kernel_rfl) (by decide +kernel) (by decide +kernel) (by decide +kernel)
    (by first | exact .inl (by decide +kernel) | exact .inr (by decide +kernel)) (by rw [isSubtype_type]; kernel_rfl)
theorem md_entry : entryFor table "method_descriptor.__get__" = some Builtin.«method_descriptor.__get__» := entryFor_of_tree (by kernel_rfl)
theorem md_args (a b c : Value) : argsOk "method_descriptor.__get__" ⟨[a, b, c], []⟩ := by unfold argsOk; kernel_rfl
theorem md_noset : typeLookup (.type "method_descriptor") "__set__" = pure none := by rw [typeLookup_type, builtinLookup_eq_fast]; kernel_rfl
theorem md_nodel : typeLookup (.type "method_descriptor") "__delete__" = pure none := by rw [typeLookup_type, builtinLookup_eq_fast]; kernel_rfl
theorem la_type : typeOf (.builtin "list.append") = pure (.type "method_descriptor") := by show builtinType _ = _; rw [builtinType_eq_fast]; kernel_rfl
theorem la_lookup : typeLookup (.type "list") "append" = pure (some (.builtin "list.append")) := by rw [typeLookup_type, builtinLookup_eq_fast]; kernel_rfl
theorem la_told : Manifest.toldItsClass.contains "list.append" = false := by decide +kernel
theorem la_owner : (".".intercalate ("list.append".cutAt '.').dropLast) = "list" := by
  have e0 : "list.append".cutAt '.' = ["list", "append"] := by first | rfl | decide +kernel
  rw [e0]; decide +kernel
theorem la_sub : isSubtype (.type "list") (.type "list") = pure true := by rw [isSubtype_type]; kernel_rfl
section
variable {pg : Program} {w : World} {A : Around} {E : Value → Shared → Prop} {h : Heap} {g : Array GenState} {d : Drawn} {t : Nat} {os : OsState} {l : Addr} {its : Array Value} {n : Nat}
noncomputable def boundA (l : Addr) : Obj := { cls := .type "builtin_function_or_method", data := .fields #[.builtin "list.append", .ref l] }
set_option maxHeartbeats 2000000 in
theorem md_run {Q : Fin → Shared → Prop} (hx : h.get? l = some (listOf its n)) (hq : Q (.done (.ret (.ref h.objs.size))) ⟨h.push (boundA l), g, d, t, os⟩) :
    wpAny (model pg w) A (Builtin.«method_descriptor.__get__» ⟨[.builtin "list.append", .ref l, .type "list"], []⟩) Q E ⟨h, g, d, t, os⟩ := by
  have hT : (⟨h, g, d, t, os⟩ : Shared).TypeIs (.ref l) "list" := ⟨_, hx, rfl⟩
  have f1 := la_told
  have f2 : isSubtype (.type "list") (.type (".".intercalate ("list.append".cutAt '.').dropLast)) = pure true := by rw [la_owner]; exact la_sub
  unfold Builtin.«method_descriptor.__get__»
  (with_reducible refine PySem.wpAny_bind ?_); wp_delta; ((with_reducible apply PySem.wpAny_ite_false); focus (rfl; done)); (with_reducible refine PySem.wpAny_bind ?_); (with_reducible refine PySem.wpAny_pure ?_); ((with_reducible apply PySem.wpAny_ite_false); focus (rfl; done)); (with_reducible refine PySem.wpAny_pure ?_); wp_delta; ((with_reducible apply PySem.wpAny_ite_false); focus (rfl; done)); wp_delta; wp_delta; (with_reducible refine PySem.wpAny_bind ?_); wp_delta; (with_reducible refine PySem.wpAny_bind ?_); wp_delta; (with_reducible refine PySem.wpAny_pure ?_); (with_reducible refine PySem.wpAny_bind ?_); (with_reducible refine PySem.wpAny_isInstance (by assumption) (by assumption) ?_); ((with_reducible apply PySem.wpAny_ite_false); focus (rfl; done)); (with_reducible refine PySem.wpAny_pure ?_); (with_reducible refine PySem.wpAny_bind ?_); wp_delta; wp_delta; ((with_reducible apply PySem.wpAny_ite_false); focus (rfl; done)); wp_delta; wp_delta; (with_reducible refine PySem.wpAny_bind ?_); (with_reducible refine PySem.wpAny_alloc' ?_); (with_reducible refine PySem.wpAny_pure ?_); wp_delta; (with_reducible refine PySem.wpAny_pure ?_); assumption
set_option maxHeartbeats 2000000 in
theorem ga_run {Q : Fin → Shared → Prop} {u : Tok} (hx : h.get? l = some (listOf its n)) (hq : Q (.done (.ret (.ref h.objs.size))) ⟨h.push (boundA l), g, d, t, os⟩) :
    wpAny (model pg w) A (Builtin.«object.__getattribute__» ⟨[.ref l, .str "append" u], []⟩) Q E ⟨h, g, d, t, os⟩ := by
  have hT : (⟨h, g, d, t, os⟩ : Shared).TypeIs (.ref l) "list" := ⟨_, hx, rfl⟩
  have hT5 : (⟨h, g, d, t, os⟩ : Shared).TypeIs (.builtin "list.append") "method_descriptor" := la_type
  have f1 := la_lookup
  have f2 := la_type
  have f3 := md_get.lookup
  have f4 := md_noset
  have f5 := md_nodel
  unfold Builtin.«object.__getattribute__»
  (with_reducible refine PySem.wpAny_bind ?_); wp_delta; ((with_reducible apply PySem.wpAny_ite_false); focus (rfl; done)); ((with_reducible apply PySem.wpAny_ite_false); focus (rfl; done)); (with_reducible refine PySem.wpAny_pure ?_); (with_reducible refine PySem.wpAny_bind ?_); wp_delta; (with_reducible refine PySem.wpAny_pure ?_); (with_reducible refine PySem.wpAny_bind ?_); (with_reducible refine PySem.wpAny_typeOf (by assumption) ?_); (with_reducible refine PySem.wpAny_bind ?_); wp_delta; (with_reducible refine PySem.wpAny_bind ?_); (with_reducible refine PySem.wpAny_of_eq (by assumption) ?_); (with_reducible refine PySem.wpAny_bind ?_); wp_delta; (with_reducible refine PySem.wpAny_specialOf_val (by assumption) (by assumption) ?_); (with_reducible refine PySem.wpAny_bind ?_); wp_delta; (with_reducible refine PySem.wpAny_bind ?_); wp_delta; (with_reducible refine PySem.wpAny_bind ?_); (with_reducible refine PySem.wpAny_specialOf_val (by assumption) (by assumption) ?_); ((with_reducible apply PySem.wpAny_ite_false); focus (rfl; done)); (with_reducible refine PySem.wpAny_bind ?_); (with_reducible refine PySem.wpAny_specialOf_val (by assumption) (by assumption) ?_); (with_reducible refine PySem.wpAny_pure ?_); ((with_reducible apply PySem.wpAny_ite_false); focus (rfl; done)); (with_reducible refine PySem.wpAny_pure ?_); wp_delta; wp_delta; (with_reducible refine PySem.wpAny_bind ?_); wp_delta; (with_reducible refine PySem.wpAny_bind ?_); wp_delta; (with_reducible refine PySem.wpAny_bind ?_); wp_delta; ((with_reducible apply PySem.wpAny_loadPart'); focus (heap_get; done)); wp_delta; wp_delta; (with_reducible refine PySem.wpAny_bind ?_); ((with_reducible apply PySem.wpAny_loadPart'); focus (heap_get; done)); ((with_reducible apply PySem.wpAny_ite_true); focus (rfl; done)); (with_reducible refine PySem.wpAny_pure ?_); wp_delta; (with_reducible refine PySem.wpAny_pure ?_); (with_reducible refine PySem.wpAny_bind ?_); wp_delta; ((with_reducible apply PySem.wpAny_ite_false); focus (rfl; done)); (with_reducible refine PySem.wpAny_pure ?_); wp_delta; (with_reducible refine PySem.wpAny_bind ?_); (with_reducible refine PySem.wpAny_rule ?_); (with_reducible refine PySem.wpAny_pure ?_); wp_delta; wp_delta; (with_reducible refine PySem.wpAny_bind ?_); (with_reducible refine PySem.wpAny_holding ?_); (with_reducible refine PySem.wpAny_call ?_)
  refine codeAny_call_builtin md_get.plain md_entry (md_get.check _ _ _ _ _ _ _ _ hT5 (md_args _ _ _) ?_)
  refine md_run hx ?_
  exact wpAny_pure hq
theorem getAttr_append {Q : Value → Shared → Prop} (hx : h.get? l = some (listOf its n)) (hq : Q (.ref h.objs.size) ⟨h.push (boundA l), g, d, t + 1, os⟩) :
    wpAny (model pg w) A (getAttr (.ref l) "append" true) Q E ⟨h, g, d, t, os⟩ := by
  have hT : ∀ tk', (⟨h, g, d, tk', os⟩ : Shared).TypeIs (.ref l) "list" := fun _ => ⟨_, hx, rfl⟩
  have f3 := F.slot_list_getattribute.lookup
  have f4 := F.slot_list_getattribute.bind (.ref l)
  have f5 := am_list_getattr_none
  unfold getAttr getAttrBy
  (with_reducible refine PySem.wpAny_bind ?_); wp_delta; (with_reducible refine PySem.wpAny_bind ?_); (with_reducible refine PySem.wpAny_fresh' ?_); (with_reducible refine PySem.wpAny_pure ?_); (with_reducible refine PySem.wpAny_holding ?_); (with_reducible refine PySem.wpAny_bind ?_); wp_delta; (with_reducible refine PySem.wpAny_bind ?_); ((with_reducible apply PySem.wpAny_loadPart'); focus (heap_get; done)); (with_reducible refine PySem.wpAny_pure ?_); (with_reducible refine PySem.wpAny_bind ?_); (with_reducible refine PySem.wpAny_of_eq (by assumption) ?_); ((with_reducible apply PySem.wpAny_ite_false); focus (rfl; done)); wp_delta; (with_reducible refine PySem.wpAny_bind ?_); wp_delta; ((with_reducible apply PySem.wpAny_ite_false); focus (rfl; done)); (with_reducible refine PySem.wpAny_pure ?_); (with_reducible refine PySem.wpAny_bind ?_); (with_reducible refine PySem.wpAny_attempt ?_); (with_reducible refine PySem.wpAny_holding ?_); wp_delta; ((with_reducible apply PySem.wpAny_ite_false); focus (rfl; done)); wp_delta; (with_reducible refine PySem.wpAny_bind ?_); (with_reducible refine PySem.wpAny_of_eq (by assumption) ?_); (((with_reducible show wpAny _ _ (call (Value.builtin "list.__getattribute__") _ _) _ _ _); refine wpAny_call_entry F.slot_list_getattribute (hT _) am_entry_list_getattribute ?_ (F.args_list_getattribute_2 _ _))); (((with_reducible show wpAny _ _ (Builtin.«object.__getattribute__» _) _ _ _); refine ga_run hx ?_))
  exact ⟨_, rfl, wpAny_pure hq⟩
end
section
variable {pg : Program} {w : World} {A : Around} {E : Value → Shared → Prop} {s₀ : Shared} {h h₀ : Heap} {k : Nat} {env : Env} {pos : Pos} {L : Addr} {m : Str → Option Value} {news : List (Addr × Obj)} {l q : Addr} {its : Array Value} {n : Nat}
/-- x.append, as a value -/
theorem k_append_of {value : PySem.Expr} {Q : Value → Shared → Prop}
    (hq : wpAny (model pg w) A (eval value env) (fun o s₁ => ∃ h₁ k₁ l its n, o = .ref l ∧ s₁ = S s₀ h₁ k₁ ∧ h₁.get? l = some (listOf its n) ∧ (∀ k', Q (.ref h₁.objs.size) (S s₀ (h₁.push (boundA l)) k'))) E (S s₀ h k))
    (he : eval (.Attribute value "append" pos) env = (do
      let o ← eval value env
      standAt pos.atName
      let r ← holding [o] (getAttr o "append" true)
      letTemporaryGo value o r
      pure r) := by with_unfolding_all rfl) (ht : ∀ o r, letTemporaryGo value o r = pure () := by intro _ _; with_unfolding_all rfl) :
    wpAny (model pg w) A (eval (.Attribute value "append" pos) env) Q E (S s₀ h k) := by
  rw [he]
  refine wpAny_bind (wpAny_mono hq (fun o s₁ x => ?_) fun _ _ x => x)
  obtain ⟨h₁, k₁, l, its, n, rfl, rfl, hx, hd⟩ := x
  refine wpAny_bind (wpAny_standAt (wpAny_bind (wpAny_holding ?_)))
  unfold S
  refine getAttr_append hx ?_
  rw [ht]
  exact wpAny_bind (wpAny_pure (wpAny_pure (hd _)))
end
end Ku
end
section
open PySem PySem.W PyProof.Rows
open PySem PySem.W PyProof.Rows PySem.Calls
namespace Ku
section
variable {pg : Program} {w : World} {A : Around} {E : Value → Shared → Prop} {s₀ : Shared} {h h₀ : Heap} {k : Nat} {env : Env} {pos : Pos} {L : Addr} {m : Str → Option Value} {news pre post : List (Addr × Obj)} {l q : Addr} {its : Array Value} {n : Nat}
theorem lm_sub : isSubtype (.type "list") (.type "module") = pure false := by rw [isSubtype_type]; kernel_rfl
theorem lt_sub : isSubtype (.type "list") (.type "type") = pure false := by rw [isSubtype_type]; kernel_rfl
theorem la_quiet {as : Args} : (Code.builtin "list.append" as).quiet = true := Code.quiet_builtin _ (by decide +kernel)
set_option maxHeartbeats 1000000 in
theorem la_check {x : Value} {Q : Unit → Shared → Prop} {s : Shared} (hx : s.heap.get? l = some (listOf its n)) (hq : Q () s) : wpAny (model pg w) A (checkBoundCall "list.append" ⟨[.ref l, x], []⟩) Q E s := by
  have hT : s.TypeIs (.ref l) "list" := ⟨_, hx, rfl⟩
  have f1 := lm_sub
  have f2 := lt_sub
  unfold checkBoundCall
  wp_delta; ((with_reducible apply PySem.wpAny_ite_false); focus (rfl; done)); (with_reducible refine PySem.wpAny_bind ?_); (with_reducible refine PySem.wpAny_isInstance (by assumption) (by assumption) ?_); ((with_reducible apply PySem.wpAny_ite_false); focus (rfl; done)); (with_reducible refine PySem.wpAny_bind ?_); wp_delta; (with_reducible refine PySem.wpAny_bind ?_); wp_delta; ((with_reducible apply PySem.wpAny_loadPart'); focus (heap_get; done)); (with_reducible refine PySem.wpAny_pure ?_); ((with_reducible apply PySem.wpAny_ite_false); focus (rfl; done)); (with_reducible refine PySem.wpAny_bind ?_); (with_reducible refine PySem.wpAny_typeOf (by assumption) ?_); wp_delta; wp_delta; (with_reducible refine PySem.wpAny_bind ?_); wp_delta; ((with_reducible apply PySem.wpAny_ite_true); focus (rfl; done)); (with_reducible refine PySem.wpAny_pure ?_); (with_reducible refine PySem.wpAny_bind ?_); wp_delta; ((with_reducible apply PySem.wpAny_ite_true); focus (rfl; done)); (with_reducible refine PySem.wpAny_pure ?_); wp_delta; wp_delta; (with_reducible_and_instances refine PySem.wpAny_pure ?_); assumption
theorem call_bound {x : Value} {Q : Value → Shared → Prop} (hq : h.get? q = some (boundA l)) (hx : h.get? l = some (listOf its n)) (hsz : its.size ≤ 5000)
    (hd : ∀ h', Heap.SameBut l h h' → h'.get? l = some (listOf (its.push x) (n + 1)) → Q .none (S s₀ h' k)) : wpAny (model pg w) A (call (.ref q) [x]) Q E (S s₀ h k) := by
  refine wpAny_call (codeAny_of_tree ?_)
  show wpAny _ A.in1 (callAny (.ref q) ⟨[x], []⟩) _ _ (S s₀ h k)
  simp only [callAny]
  refine wpAny_bind (wpAny_load (s := S s₀ h k) hq ?_)
  simp only [boundA, show (Value.type "builtin_function_or_method" == Value.type "method" || Value.type "builtin_function_or_method" == Value.type "builtin_function_or_method" || Value.type "builtin_function_or_method" == Value.type "method-wrapper") = true by decide, if_true]
  refine KFB.if_so (by decide) ?_
  refine wpAny_bind (la_check (s := S s₀ h k) hx ?_)
  refine wpAny_bind (wpAny_pure (wpAny_pure ?_))
  refine ⟨la_quiet, codeAny_builtin F.entry_list_append ?_⟩
  show wpAny _ _ (updateSeq l (·.push x) >>= fun _ => ret .none) _ _ (S s₀ h k)
  refine wpAny_bind ?_
  have hsz' : its.size ≤ sizeLine := by unfold sizeLine; (first | lia | omega)
  refine wpAny_updateSeq (s := S s₀ h k) hx rfl (wpAny_pure (hd _ (Heap.SameBut.update ..) ?_))
  have e : Obj.mapSeq (·.push x) (listOf its n) = listOf (its.push x) (n + 1) := Obj.mapSeq_push_plain ..
  show (h.update l (Obj.mapSeq (·.push x))).get? l = _
  rw [Heap.get?_update_self _ hx (by rw [e]; rfl), e]
theorem k_bound {e : PySem.Expr} {es : List PySem.Expr} {Q : Value → Shared → Prop}
    (hq : wpAny (model pg w) A (spliced (backTo pos (starEach (e :: es) env))) (fun vs s₁ => ∃ h₁ k₁, s₁ = S s₀ h₁ k₁ ∧ h₁.get? q = some (boundA l) ∧ wpAny (model pg w) A (call (.ref q) vs) Q E s₁) E (S s₀ h k))
    (he : starEach (e :: es) env = (false, eval e env) :: starEach es env := by rfl) (hplain : (backTo pos (starEach es env)).any (·.1) = false := by rfl) :
    wpAny (model pg w) A (callWith pos (.ref q) [] (backTo pos (starEach (e :: es) env)) []) Q E (S s₀ h k) := by
  rw [he] at hq ⊢
  have key : wpAny (model pg w) A (evalArgs (.ref q) true (backTo pos ((false, eval e env) :: starEach es env)) []) (fun x s₁ => ∃ h₁ k₁, s₁ = S s₀ h₁ k₁ ∧ h₁.get? q = some (boundA l) ∧ x.kw = [] ∧ wpAny (model pg w) A (call (.ref q) x.pos) Q E s₁) E (S s₀ h k) :=
    evalArgs_plain (wpAny_mono hq (fun vs s₁ x => by obtain ⟨h₁, k₁, e1, e2, e3⟩ := x; exact ⟨h₁, k₁, e1, e2, rfl, e3⟩) fun _ _ x => x)
  unfold callWith
  refine wpAny_bind (wpAny_holding (wpAny_mono key (fun x s₁ y => wpAny_bind (wpAny_standAt ?_)) fun _ _ x => x))
  obtain ⟨h₁, k₁, rfl, ho, hk, hcall⟩ := y
  have hp : ((backTo pos ((false, eval e env) :: starEach es env)).any (·.1)) = false := by show (false || (backTo pos (starEach es env)).any (·.1)) = false; rw [hplain]; rfl
  simp only [hp, List.any_nil, Bool.or_false]
  refine wpAny_bind (m := keeperOf (.ref q)) ?_
  unfold keeperOf
  refine wpAny_bind (wpAny_load (s := S s₀ h₁ k₁) ho ?_)
  simp only [boundA, show (Value.type "builtin_function_or_method" != Value.type "method") = true by decide, show (Value.type "builtin_function_or_method" == Value.type "builtin_function_or_method" || Value.type "builtin_function_or_method" == Value.type "method-wrapper") = true by decide, if_true]
  refine wpAny_pure ?_
  rw [hk]
  exact wpAny_bind (wpAny_mono hcall (fun r s₂ hr => wpAny_bind (wpAny_holding (wpAny_point (wpAny_pure hr)))) fun _ _ x => x)
/-- append(x): the list stands in the ledger -/
theorem k_call_append {x : Value} {Q : Value → Shared → Prop} (F : Fr h₀ L h m) (N : News h₀ L h (pre ++ (l, listOf its n) :: post)) (hp : ∀ p ∈ pre, p.1 ≠ l) (hp2 : ∀ p ∈ post, p.1 ≠ l) (hq : h.get? q = some (boundA l)) (hsz : its.size ≤ 5000)
    (hd : ∀ h', Fr h₀ L h' m → News h₀ L h' (pre ++ (l, listOf (its.push x) (n + 1)) :: post) → Q .none (S s₀ h' k)) : wpAny (model pg w) A (call (.ref q) [x]) Q E (S s₀ h k) := by
  have z := N (l, listOf its n) (List.mem_append.mpr (.inr (.head _)))
  exact call_bound hq z.1 hsz fun h' hs ho => hd h' (F.change hs z.2.1 z.2.2) (news_set N hp hp2 hs ho)
end
end Ku
end
section
open PySem PySem.W PyProof.Rows
open PySem PySem.W PyProof.Rows PySem.Calls
namespace Ku
section
variable {pg : Program} {w : World} {A : Around} {E : Value → Shared → Prop} {s₀ : Shared} {h h₀ : Heap} {k : Nat} {a : Addr} {f : Nat → T} {l : T}
open Builtin Builtin.Str
theorem t_lookup {c : Nat} {Q : Mapped → Shared → Prop} (ht : TabIs h a f) (hc : c < 256) (hq : ∀ k', Q (.text (mkS (f c))) (S s₀ h k')) : wpAny (model pg w) A (tableLookup (.ref a) c) Q E (S s₀ h k) := by
  obtain ⟨vs, hl, hv⟩ := ht
  obtain ⟨t, hx⟩ := hv c hc
  unfold tableLookup
  refine wpAny_bind (wpAny_attempt (wpAny_bind (wpAny_mkInt (s := S s₀ h k) ?_)))
  refine wpAny_getItem_list (s := S s₀ h (k + 1)) hl (by (first | lia | omega)) (by (first | lia | omega)) (by simpa using hx) ?_
  (with_reducible refine PySem.wpAny_bind ?_); wp_delta; (with_reducible refine PySem.wpAny_bind ?_); wp_delta; (with_reducible refine PySem.wpAny_pure ?_); (with_reducible refine PySem.wpAny_pure ?_); (with_reducible refine PySem.wpAny_bind ?_); wp_delta; (with_reducible refine PySem.wpAny_pure ?_); (with_reducible refine PySem.wpAny_pure ?_); (exact hq _)
noncomputable def TrInv (f : Nat → T) (l : T) (s₀ : Shared) (h : Heap) (rest : List Nat) (b : List Str × Nat × Bool × List (Nat × Option Nat) × Bool) (s' : Shared) : Prop :=
  ∃ done, l = done ++ rest ∧ b.1 = (done.map fun c => mkS (f c)).reverse ∧ b.2.1 ≤ 3 * done.length ∧
    (∀ c x, b.2.2.2.1.lookup c = some x → ∃ d, x = some d ∧ f c = [d]) ∧ b.2.2.2.2 = false ∧ ∃ k', s' = S s₀ h k'
theorem len_flat (hf : ∀ c < 256, (f c).length ≤ 3) : ∀ (l : T), (∀ c ∈ l, c < 256) → (l.flatMap f).length ≤ 3 * l.length
  | [], _ => by simp
  | c :: r, hl => by
    have h1 := hf c (hl c (by simp))
    have h2 := len_flat hf r fun x hx => hl x (by simp [hx])
    simp only [List.flatMap_cons, List.length_append, List.length_cons]; (first | lia | omega)
theorem htl (n : Nat) (hn : n ≤ 3000) : tooLong n = false := by
  unfold tooLong sizeLine; exact decide_eq_false (by (first | lia | omega))
theorem tr_yield (hl : ∀ c ∈ l, c < 256) (hf : ∀ c < 256, (f c).length ≤ 3) {c : Nat} {rest done : List Nat} {total : Nat} {fast : Bool} {known : List (Nat × Option Nat)} {k' : Nat} (hd : l = done ++ c :: rest) (ht' : total ≤ 3 * done.length) (hk : ∀ c x, known.lookup c = some x → ∃ d, x = some d ∧ f c = [d]) :
    TrInv f l s₀ h rest (mkS (f c) :: (done.map fun c => mkS (f c)).reverse, total + (f c).length, fast, known, false) (S s₀ h k') := by
  have hc : c < 256 := hl c (by rw [hd]; simp)
  have := hf c hc
  refine ⟨done ++ [c], by rw [hd]; simp, by simp, ?_, hk, rfl, k', rfl⟩
  show total + (f c).length ≤ 3 * (done ++ [c]).length
  simp; (first | lia | omega)
theorem trans_run {t : Tok} {Q : PySem.Fin → Shared → Prop} (ht : TabIs h a f) (hl : ∀ c ∈ l, c < 256) (hf : ∀ c < 256, (f c).length ≤ 3) (hne : l ≠ []) (hsz : l.length ≤ 1000) (hq : ∀ t k', Q (.done (.ret (.str (mkS (l.flatMap f)) t))) (S s₀ h k')) :
    wpAny (model pg w) A (Builtin.«str.translate» ⟨[.str (mkS l) t, .ref a], []⟩) Q E (S s₀ h k) := by
  have hlen : ((mkS l).length == 0) = false := by
    rw [mkS_len]; cases l with
    | nil => exact absurd rfl hne
    | cons => rfl
  unfold Builtin.«str.translate»
  iterate 21 wp_step
  refine MeetsSeq2.wpAny_forIn_array _ (TrInv f l s₀ h) _ ?turn ?fin _ _ ?h
  case turn =>
    rintro c rest ⟨pieces, total, fast, known, afterDrop⟩ s' ⟨done, hd, hp, ht', hk, ha, k', rfl⟩
    dsimp only at hp ht' hk ha
    subst hp ha
    have hc : c < 256 := hl c (by rw [hd]; simp)
    have hdl : done.length ≤ 1000 := by rw [hd] at hsz; simp at hsz; (first | lia | omega)
    dsimp only
    rw [htl total (by (first | lia | omega)), if_neg (by decide)]
    cases fast with
    | false => 
      rw [if_neg (by decide), if_neg (by decide)]
      refine wpAny_bind (t_lookup ht hc fun k'' => ?_)
      dsimp only
      refine wpAny_pure ?_
      rw [mkS_len]
      exact tr_yield hl hf hd ht' hk
    | true =>
      rw [if_pos rfl]
      cases hlk : List.lookup c known with
      | some x =>
        obtain ⟨dd, rfl, hfd⟩ := hk c x hlk
        dsimp only
        refine wpAny_bind (wpAny_pure ?_)
        dsimp only
        refine wpAny_pure ?_
        have := tr_yield (s₀ := s₀) (h := h) hl hf (fast := true) (k' := k') hd ht' hk
        rw [hfd] at this
        exact this
      | none =>
        dsimp only
        refine wpAny_bind (t_lookup ht hc fun k'' => ?_)
        dsimp only
        by_cases hq1 : ((mkS (f c)).length == 1 && (mkS (f c)).cps.all fun x => decide (x < 128)) = true
        · rw [if_pos hq1]
          have hl1 : (f c).length = 1 := by
            have := (Bool.and_eq_true_iff.mp hq1).1
            rw [mkS_len] at this; simpa using this
          obtain ⟨dd, hfd⟩ : ∃ dd, f c = [dd] := by
            cases hfc : f c with
            | nil => rw [hfc] at hl1; simp at hl1
            | cons x r => cases r with
              | nil => exact ⟨x, rfl⟩
              | cons y r => rw [hfc] at hl1; simp at hl1
          have e0 : (mkS (f c)).cps[0]? = some dd := by rw [hfd]; rfl
          rw [e0]
          dsimp only
          refine wpAny_bind (wpAny_pure ?_)
          dsimp only
          refine wpAny_pure ?_
          have := tr_yield (s₀ := s₀) (h := h) hl hf (fast := true) (known := (c, some dd) :: known) (k' := k'') hd ht' (by
            intro c' x hx
            rw [List.lookup_cons] at hx
            by_cases e : c' = c
            · subst e; simp at hx; exact ⟨dd, hx.symm, hfd⟩
            · rw [beq_false_of_ne e] at hx; exact hk c' x hx)
          rw [hfd] at this
          exact this
        · rw [if_neg hq1]
          dsimp only
          refine wpAny_bind (wpAny_pure ?_)
          dsimp only
          refine wpAny_bind (wpAny_rule ?_)
          rw [if_neg (by decide)]
          refine wpAny_bind (t_lookup ht hc fun k3 => ?_)
          dsimp only
          refine wpAny_pure ?_
          rw [mkS_len]
          exact tr_yield hl hf hd ht' hk
  case fin =>
    rintro ⟨pieces, total, fast, known, afterDrop⟩ s' ⟨done, hd, hp, ht', hk, ha, k', rfl⟩
    dsimp only at hp ht' hk ha
    subst hp
    have hd' : l = done := by rw [hd]; simp
    subst hd'
    dsimp only
    rw [htl total (by (first | lia | omega)), if_neg (by decide)]
    have e : (⟨List.foldl (fun acc p => acc ++ p.cps) #[] ((l.map fun c => mkS (f c)).reverse).reverse⟩ : Str) = mkS (l.flatMap f) := by
      rw [List.reverse_reverse]
      have : ∀ (r : List Nat) (acc : Array Nat), List.foldl (fun acc (p : Str) => acc ++ p.cps) acc (r.map fun c => mkS (f c)) = acc ++ (r.flatMap f).toArray := by
        intro r
        induction r with
        | nil => intro acc; simp
        | cons c r ih => intro acc; rw [List.map_cons, List.foldl_cons, ih]; simp [mkS]
      rw [this]
      simp [mkS]
    rw [e]
    have hlf := len_flat hf l hl
    exact wpAny_bind (wpAny_mkStr (s := S s₀ h k') (wpAny_pure (hq _ _)) (by rw [mkS_len]; unfold sizeLine; (first | lia | omega)))
  case h =>
    exact ⟨[], rfl, rfl, Nat.le_refl _, fun c x hx => by simp at hx, rfl, k, rfl⟩
theorem o_trans {t : Tok} {Q : Value → Shared → Prop} (ht : TabIs h a f) (hl : ∀ c ∈ l, c < 256) (hf : ∀ c < 256, (f c).length ≤ 3) (hne : l ≠ []) (hsz : l.length ≤ 1000) (hq : ∀ t k', Q (.str (mkS (l.flatMap f)) t) (S s₀ h k')) :
    wpAny (model pg w) A (call (.builtin "str.translate") [.str (mkS l) t, .ref a]) Q E (S s₀ h k) :=
  wpAny_call_entry F.slot_str_translate (typeIs_str _ _ _) F.entry_str_translate (trans_run ht hl hf hne hsz fun t k' => ⟨_, rfl, hq t k'⟩) (F.args_str_translate_2 _ _)
end
end Ku
end
section
open PySem PySem.W PyProof.Rows
open PySem PySem.W PyProof.Rows PySem.Calls
namespace Ku
open Builtin Builtin.Str StrLaws
noncomputable def brk (c : Nat) : Bool := c == 10 || c == 13
theorem strSub_mkS (l : T) (i j : Nat) : strSub (mkS l) i j = mkS ((l.drop i).take (j - i)) := by
  apply Str.ext'
  apply Array.toList_inj.mp
  rw [StrLaws.strSub_toList, mkS_toList, mkS_toList]
theorem lines_go (l : T) (hl : ∀ c ∈ l, Unicode.isLineBreak c = brk c) : ∀ (r pre : T) (arr : Array (Nat × Nat × Nat)) (start : Nat), l = pre ++ r → (start ≤ pre.length ∨ (start = pre.length + 1 ∧ r ≠ [])) →
    ((lsEnd (mkS l) (Id.run (forIn (m := Id) (List.range' pre.length r.length) ((arr, start) : LsSt) (lsBody (mkS l))))).map fun p => strSub (mkS l) p.1 p.2.1) =
      (arr.toList.map fun p => strSub (mkS l) p.1 p.2.1) ++ (if start ≤ pre.length then splitL r ((l.drop start).take (pre.length - start)) else splitL (r.drop 1) []).map mkS
  | [], pre, arr, start, e, hs => by
    have hs' : start ≤ pre.length := hs.elim id fun x => absurd rfl x.2
    rw [if_pos hs']
    have el : l = pre := by simpa using e
    have hlen : (mkS l).length = pre.length := by rw [mkS_len, el]
    show (lsEnd (mkS l) (arr, start)).map _ = _
    unfold lsEnd
    dsimp only
    rw [hlen]
    by_cases h : start < pre.length
    · rw [if_pos h, Array.toList_push, List.map_append]
      have hne : (l.drop start).take (pre.length - start) ≠ [] := by
        intro q
        have := congrArg List.length q
        simp [el] at this; (first | lia | omega)
      rw [splitL, if_neg hne, List.map_cons, List.map_nil, List.map_cons, List.map_nil, strSub_mkS]
    · rw [if_neg h]
      have hne : (l.drop start).take (pre.length - start) = [] := by
        have : pre.length - start = 0 := by (first | lia | omega)
        rw [this]; simp
      rw [splitL, if_pos hne]; simp
  | c :: t, pre, arr, start, e, hs => by
    have hcl : c ∈ l := by rw [e]; simp
    have hbr := hl c hcl
    have hgd : (mkS l).cps.getD pre.length 0 = c := by
      show (l.toArray).getD pre.length 0 = c
      rw [e]; simp
    have hnx : (mkS l).cps[pre.length + 1]? = t.head? := by
      show (l.toArray)[pre.length + 1]? = _
      rw [e]; simp
      cases t <;> simp
    rw [List.length_cons, List.range'_succ, List.forIn_cons]
    have e' : l = (pre ++ [c]) ++ t := by rw [e]; simp
    have hlen' : (pre ++ [c]).length = pre.length + 1 := by simp
    have IH := fun arr' start' hs' => lines_go l hl t (pre ++ [c]) arr' start' e' hs'
    rw [hlen'] at IH
    have hb : lsBody (mkS l) pre.length (arr, start) = if (decide (start ≤ pre.length) && brk c) = true then pure (ForInStep.yield (arr.push (start, pre.length, lsNext (mkS l) pre.length), lsNext (mkS l) pre.length)) else pure (ForInStep.yield (arr, start)) := by
      unfold lsBody
      rw [hgd, hbr]
    have hn : lsNext (mkS l) pre.length = if c = 13 ∧ t.head? = some 10 then pre.length + 2 else pre.length + 1 := by
      unfold lsNext
      rw [hgd, hnx]
      by_cases q : c = 13 ∧ t.head? = some 10
      · rw [if_pos q, if_pos (by rw [q.1, q.2]; rfl)]
      · rw [if_neg q, if_neg]
        intro x; apply q
        simpa using x
    by_cases hle : start ≤ pre.length
    · have acc' : (l.drop start).take (pre.length + 1 - start) = (l.drop start).take (pre.length - start) ++ [c] := by
        have h1 : pre.length + 1 - start = (pre.length - start) + 1 := by (first | lia | omega)
        have h2 : (l.drop start)[pre.length - start]? = some c := by
          rw [List.getElem?_drop, e]
          have : start + (pre.length - start) = pre.length := by (first | lia | omega)
          rw [this]; simp
        rw [h1, List.take_add_one, h2]; rfl
      by_cases hc : brk c = true
      · rw [hb, if_pos (by rw [decide_eq_true hle, hc]; rfl)]
        show (lsEnd (mkS l) (Id.run (forIn (m := Id) (List.range' (pre.length + 1) t.length) (arr.push (start, pre.length, lsNext (mkS l) pre.length), lsNext (mkS l) pre.length) (lsBody (mkS l))))).map _ = _
        have hc' : c = 10 ∨ c = 13 := by simpa [brk] using hc
        rw [if_pos hle, IH _ _ (by rw [hn]; split
                                   · rename_i q
                                     right; refine ⟨rfl, ?_⟩
                                     intro z; rw [z] at q; simp at q
                                   · left; exact Nat.le_refl _)]
        rw [Array.toList_push, List.map_append, List.append_assoc, List.map_cons, List.map_nil, strSub_mkS]
        congr 1
        rw [hn]
        cases t with
        | nil =>
          rw [if_neg (by simp), if_pos (Nat.le_refl _), Nat.sub_self, List.take_zero, splitL, splitL, if_pos rfl, if_pos hc']; rfl
        | cons d t' =>
          by_cases q : c = 13 ∧ d = 10
          · rw [if_pos ⟨q.1, by rw [q.2]; rfl⟩, if_neg (by (first | lia | omega)), splitL, if_pos q]; rfl
          · rw [if_neg (by rintro ⟨a, b⟩; apply q; exact ⟨a, by simpa using b⟩), if_pos (Nat.le_refl _), Nat.sub_self, List.take_zero]
            conv => rhs; rw [splitL, if_neg q, if_pos hc']
            rfl
      · rw [hb, if_neg (by rw [Bool.and_eq_true]; rintro ⟨_, q⟩; exact hc q)]
        show (lsEnd (mkS l) (Id.run (forIn (m := Id) (List.range' (pre.length + 1) t.length) (arr, start) (lsBody (mkS l))))).map _ = _
        have hc' : ¬ (c = 10 ∨ c = 13) := by simpa [brk] using hc
        rw [IH arr start (.inl (by (first | lia | omega))), if_pos (by (first | lia | omega)), if_pos hle, acc']
        congr 2
        cases t with
        | nil => rw [splitL, if_neg (by simp), splitL, if_neg hc']
        | cons d t' => conv => rhs; rw [splitL, if_neg (by intro q; exact hc' (.inr q.1)), if_neg hc']
    · have hst : start = pre.length + 1 := by rcases hs with h | h <;> (first | lia | omega)
      rw [hb, if_neg (by rw [Bool.and_eq_true, decide_eq_true_eq]; rintro ⟨q, _⟩; exact hle q)]
      show (lsEnd (mkS l) (Id.run (forIn (m := Id) (List.range' (pre.length + 1) t.length) (arr, start) (lsBody (mkS l))))).map _ = _
      rw [IH arr start (.inl (by (first | lia | omega))), if_pos (by (first | lia | omega)), if_neg hle, hst, Nat.sub_self, List.take_zero]; rfl
theorem lines_eq (l : T) (hl : ∀ c ∈ l, Unicode.isLineBreak c = brk c) : Txt.lines (mkS l) = (splitL l []).map mkS := by
  have key : linesOf (mkS l) = (splitL l []).map mkS := by
    have e : linesOf (mkS l) = (lineSpans (mkS l)).map fun p => strSub (mkS l) p.1 p.2.1 := by
      unfold linesOf lineCuts
      rw [List.map_map]
      apply List.map_congr_left
      intro ⟨i, j, k⟩ _
      rfl
    rw [e, ls_eq]
    have := lines_go l hl l [] #[] 0 rfl (.inl (Nat.le_refl _))
    rw [mkS_len]
    simpa using this
  unfold Txt.lines
  split
  · rename_i hq
    rw [← key]
    unfold linesOf
    rw [eq_of_beq hq]
    show [mkS l] = [strSub (mkS l) 0 (mkS l).length]
    rw [StrLaws.sub_whole]
  · exact key
end Ku
end
section
open PySem PySem.W PyProof.Rows
open PySem PySem.W PyProof.Rows PySem.Calls
namespace Ku
section
variable {pg : Program} {w : World} {A : Around} {E : Value → Shared → Prop} {s₀ : Shared} {h h₀ : Heap} {k : Nat} {env : Env} {pos apos : Pos} {L D : Addr} {m : Str → Option Value} {news : List (Addr × Obj)} {l r : T} {t u v : Tok}
theorem k_mcall {o : PySem.Expr} {name : Str} {args : List PySem.Expr} {pl : Sem Bool} {Q : Value → Shared → Prop}
    (hq : wpAny (model pg w) A (eval o env) (KGet pg w A name pl pos args env Q E) E (S s₀ h k))
    (he : eval (.Call (.Attribute o name apos) args [] pos) env = (do
      let ov ← eval o env
      standAt apos.atName
      let (f, first) ← holding [ov] (getMethod ov name pl)
      callWith pos f first (backTo pos (starEach args env)) []) := by rfl) :
    wpAny (model pg w) A (eval (.Call (.Attribute o name apos) args [] pos) env) Q E (S s₀ h k) := MethodCall_ hq he
theorem g_translate {pl : Sem Bool} {Q : Value × List Value → Shared → Prop} (hq : Q (.builtin "str.translate", [.str (mkS l) t]) (S s₀ h k)) : wpAny (model pg w) A (getMethod (.str (mkS l) t) (Str.ofString "translate") pl) Q E (S s₀ h k) :=
  by with_reducible exact GM.of (.str (mkS l) t) (typeIs_str _ _ _) F.slot_str_translate F.type_str_translate GM.noRef hq
theorem g_splitlines {pl : Sem Bool} {Q : Value × List Value → Shared → Prop} (hq : Q (.builtin "str.splitlines", [.str (mkS l) t]) (S s₀ h k)) : wpAny (model pg w) A (getMethod (.str (mkS l) t) (Str.ofString "splitlines") pl) Q E (S s₀ h k) :=
  by with_reducible exact GM.splitlines hq
theorem g_rstrip {pl : Sem Bool} {Q : Value × List Value → Shared → Prop} (hq : Q (.builtin "str.rstrip", [.str (mkS l) t]) (S s₀ h k)) : wpAny (model pg w) A (getMethod (.str (mkS l) t) (Str.ofString "rstrip") pl) Q E (S s₀ h k) :=
  by with_reducible exact GM.rstrip hq
theorem g_join {pl : Sem Bool} {Q : Value × List Value → Shared → Prop} (hq : Q (.builtin "str.join", [.str (mkS l) t]) (S s₀ h k)) : wpAny (model pg w) A (getMethod (.str (mkS l) t) (Str.ofString "join") pl) Q E (S s₀ h k) :=
  by with_reducible exact GM.join hq
theorem g_endswith {pl : Sem Bool} {Q : Value × List Value → Shared → Prop} (hq : Q (.builtin "str.endswith", [.str (mkS l) t]) (S s₀ h k)) : wpAny (model pg w) A (getMethod (.str (mkS l) t) (Str.ofString "endswith") pl) Q E (S s₀ h k) :=
  by with_reducible exact GM.endswith hq
theorem g_replace {pl : Sem Bool} {Q : Value × List Value → Shared → Prop} (hq : Q (.builtin "str.replace", [.str (mkS l) t]) (S s₀ h k)) : wpAny (model pg w) A (getMethod (.str (mkS l) t) (Str.ofString "replace") pl) Q E (S s₀ h k) :=
  by with_reducible exact GM.replace hq
theorem g_split {pl : Sem Bool} {Q : Value × List Value → Shared → Prop} (hq : Q (.builtin "str.split", [.str (mkS l) t]) (S s₀ h k)) : wpAny (model pg w) A (getMethod (.str (mkS l) t) (Str.ofString "split") pl) Q E (S s₀ h k) :=
  by with_reducible exact GM.split hq
theorem o_lines {Q : Value → Shared → Prop} (F : Fr h₀ L h m) (N : News h₀ L h news) (hsz : l.length ≤ 10000)
    (hq : ∀ D ls h' k', ls.map (·.1) = Txt.lines (mkS l) → Fr h₀ L h' m → News h₀ L h' news → h'.IsList D (strValues ls).toArray → D ≠ L → (∀ p ∈ news, p.1 ≠ D) → Q (.ref D) (S s₀ h' k')) :
    wpAny (model pg w) A (call (.builtin "str.splitlines") [.str (mkS l) t]) Q E (S s₀ h k) := by
  have h1 : (mkS l).length ≤ sizeLine := by rw [mkS_len]; unfold sizeLine; (first | lia | omega)
  have h2 : (lineCuts (mkS l)).length ≤ sizeLine := Nat.le_trans (lineCuts_le _) (by rw [mkS_len]; unfold sizeLine; (first | lia | omega))
  refine splitlinesN (s := S s₀ h k) F N (fun ls h' k' e F' N' => ?_) h1 h2
  have hm := N' _ (.head _)
  exact hq _ ls h' k' e F' (fun p hp => N' p (.tail _ hp)) ⟨_, hm.1, rfl, _, rfl⟩ hm.2.1 fun p hp => Nat.ne_of_lt (Heap.lt_size (N p hp).1)
theorem glued_joinT (l : T) (ys : List T) : Txt.join (mkS l) (ys.map mkS) = mkS (joinT l ys) := by
  show Builtin.Str.glued (mkS l) (ys.map mkS) = _
  rw [StrLaws.glued_eq_join]
  induction ys with
  | nil => rfl
  | cons x r ih =>
    cases r with
    | nil => rfl
    | cons y r' =>
      show mkS x ++ mkS l ++ Str.join (mkS l) (mkS y :: r'.map mkS) = _
      rw [show Str.join (mkS l) (mkS y :: r'.map mkS) = mkS (joinT l (y :: r')) from ih, mkS_append, mkS_append]
      rfl
theorem o_join {ls : List (Str × Tok)} {ys : List T} {Q : Value → Shared → Prop} (hl : h.IsList D (strValues ls).toArray) (e : ls.map (·.1) = ys.map mkS) (B : Nat) (hB : ∀ y ∈ ys, y.length ≤ B) (hsz : ys.length * B + ys.length * l.length ≤ 16777216)
    (hq : ∀ t k', Q (.str (mkS (joinT l ys)) t) (S s₀ h k')) : wpAny (model pg w) A (call (.builtin "str.join") [.str (mkS l) t, .ref D]) Q E (S s₀ h k) := by
  refine SC.join (s := S s₀ h k) hl e ?_ fun t' k' => ?_
  · unfold JoinOk
    rw [StrLaws.joinTotal]
    have h1 : ((ys.map mkS).map (·.length)).sum ≤ (ys.map mkS).length * B := StrLaws.sumLen_le _ fun y hy => by
      obtain ⟨z, hz, rfl⟩ := List.mem_map.mp hy
      rw [mkS_len]; exact hB z hz
    rw [mkS_len]
    rw [List.length_map] at h1 ⊢
    have : Builtin.Str.tooLong (((ys.map mkS).map (·.length)).sum + ys.length * l.length) = false := by unfold Builtin.Str.tooLong sizeLine; exact decide_eq_false (by (first | lia | omega))
    rw [this]; rfl
  · rw [glued_joinT]; exact hq t' k'
end
end Ku
end
section
open PySem PySem.W PyProof.Rows
open PySem PySem.W PyProof.Rows PySem.Calls
namespace Ku
theorem look_hd {n : Str} {v : Value} {r : List (Str × Value)} : look ((n, v) :: r) n = some v := by unfold look; rw [if_pos rfl]
theorem look_tl {n y : Str} {v w : Value} {r : List (Str × Value)} (h : y ≠ n) (h2 : look r y = some v) : look ((n, w) :: r) y = some v := by unfold look; rw [if_neg h]; exact h2
section
variable {pg : Program} {w : World} {A : Around} {E : Value → Shared → Prop} {s₀ : Shared} {h h₀ : Heap} {k : Nat} {env : Env} {pos px apos : Pos} {L D a : Addr} {m : Str → Option Value} {news : List (Addr × Obj)} {l r : T} {t u v : Tok} {cn : Str} {cs : Scope} {ccd : Value} {cl : List (Str × Addr)} {vals : List (Str × Value)} {its : Array Value} {n : Nat} {f : Nat → T}
theorem k_list {elts : List PySem.Expr} {Q : Value → Shared → Prop} (hq : wpAny (model pg w) A (spliced (backTo pos (starEach elts env))) (KList pg w A Q E) E (S s₀ h k)) :
    wpAny (model pg w) A (eval (.List elts pos) env) Q E (S s₀ h k) := List_ hq
theorem k_tuple {elts : List PySem.Expr} {kk : Nat} {Q : Value → Shared → Prop} (hq : wpAny (model pg w) A (spliced (backTo pos (starEach elts env))) (KTup pg w A Q E) E (S s₀ h k)) :
    wpAny (model pg w) A (eval (.Tuple elts kk pos) env) Q E (S s₀ h k) := Tuple_ hq
theorem o_newlist {vs : List Value} {Q : Value → Shared → Prop} (F : Fr h₀ L h m) (N : News h₀ L h news) (hsz : vs.length ≤ 5000)
    (hq : ∀ D h', Fr h₀ L h' m → News h₀ L h' ((D, listOf vs.toArray 0) :: news) → (∀ p ∈ news, p.1 < D) → Q (.ref D) (S s₀ h' k)) : wpAny (model pg w) A (newList vs) Q E (S s₀ h k) :=
  newList_K (s := S s₀ h k) F N hq (by unfold sizeLine; (first | lia | omega))
theorem o_newtuple {vs : List Value} {Q : Value → Shared → Prop} (F : Fr h₀ L h m) (N : News h₀ L h news) (hsz : vs.length ≤ 5000)
    (hq : ∀ D h', Fr h₀ L h' m → News h₀ L h' ((D, { cls := .type "tuple", data := .seq vs.toArray }) :: news) → (∀ p ∈ news, p.1 < D) → Q (.ref D) (S s₀ h' k)) : wpAny (model pg w) A (newTuple vs) Q E (S s₀ h k) :=
  newTuple_N (s := S s₀ h k) F N (fun h' F' N' => hq _ h' F' N' fun p hp => Heap.lt_size (N p hp).1) (by unfold sizeLine; (first | lia | omega))
theorem k_append_val {x : Str} {Q : Value → Shared → Prop} (F : Fr h₀ L h (look vals)) (N : News h₀ L h ((D, listOf its n) :: news)) (hv : look vals x = some (.ref D))
    (hx : (envX cn cs L a ccd cl).kindOf x = some .local) (hk : cs.kind = .function) (hd : (x == ("__debug__" : Str)) = false)
    (hq : ∀ q h' k', Fr h₀ L h' (look vals) → News h₀ L h' ((q, boundA D) :: (D, listOf its n) :: news) → D < q → (∀ p ∈ news, p.1 < q) → Q (.ref q) (S s₀ h' k')) :
    wpAny (model pg w) A (eval (.Attribute (.Name x px) (Str.ofString "append") pos) (envX cn cs L a ccd cl)) Q E (S s₀ h k) :=
  k_append_of (k_local F hv ⟨h, k, D, its, n, rfl, rfl, (N _ (.head _)).1, fun k' => hq _ _ _ (F.push _) (News.push F N _) (Heap.lt_size (N _ (.head _)).1) fun p hp => Heap.lt_size (N p (.tail _ hp)).1⟩ hx hk hd)
theorem o_tab {value slice : PySem.Expr} {c : Nat} {Q : Value → Shared → Prop} (ht : TabIs h a f) (hc : c < 256) (hq : ∀ t, Q (.str (mkS (f c)) t) (S s₀ h k))
    (hs : subscripted slice false (.ref a) (.int (c : Int) u) = operate [.ref a, .int (c : Int) u] (getItem (.ref a) (.int (c : Int) u)) := by with_unfolding_all rfl) :
    wpAny (model pg w) A (subscriptTail value slice (.ref a) (.int (c : Int) u)) Q E (S s₀ h k) := by
  obtain ⟨vs, hl, hv⟩ := ht
  obtain ⟨t, hx⟩ := hv c hc
  exact tail_any (s := S s₀ h k) hl.typeIs slot_list_getitem.lookup (wpAny_getItem_list (s := S s₀ h k) hl (by (first | lia | omega)) (by (first | lia | omega)) (by simpa using hx) (hq t)) hs
theorem o_slc {lo hi : Option PySem.Expr} {env : Env} {p : Pos} {value : PySem.Expr} {Q : Value → Shared → Prop} (_F : Fr h₀ L h m) (_N : News h₀ L h news) (hl : l.length ≤ 10000)
    (hq : wpAny (model pg w) A (evalPart lo env) (fun lv s₁ => wpAny (model pg w) A (evalPart hi env) (fun uv s₂ => ∃ h' k' y, s₂ = S s₀ h' k' ∧ Fr h₀ L h' m ∧ News h₀ L h' news ∧
      ((∃ i ui, lv = .int i ui ∧ ∃ j uj, uv = .int j uj ∧ Txt.slice (mkS l) (some i) (some j) = mkS y) ∨ (∃ i ui, lv = .int i ui ∧ uv = .none ∧ Txt.slice (mkS l) (some i) none = mkS y) ∨
        (lv = .none ∧ ∃ j uj, uv = .int j uj ∧ Txt.slice (mkS l) none (some j) = mkS y)) ∧
      (∀ t h'' k'', Fr h₀ L h'' m → News h₀ L h'' news → Q (.str (mkS y) t) (S s₀ h'' k''))) E s₁) E (S s₀ h k))
    (hs : ∀ i, subscripted (.Slice lo hi none p) false (.str (mkS l) t) (.ref i) = operate [.ref i, .str (mkS l) t] (getItem (.str (mkS l) t) (.ref i)) := by intro _; with_unfolding_all rfl)
    (ht : ∀ r, letTemporaryGo value (.str (mkS l) t) r = pure () := by intro _; with_unfolding_all rfl) :
    wpAny (model pg w) A (eval (.Slice lo hi none p) env) (fun i s₂ => wpAny (model pg w) A (subscriptTail value (.Slice lo hi none p) (.str (mkS l) t) i) Q E s₂) E (S s₀ h k) := o_slice hq hl hs ht
theorem slice_at (l : T) {i j : Int} (a b : Nat) (hi : i = (a : Int)) (hj : j = ((a + b : Nat) : Int)) : Txt.slice (mkS l) (some i) (some j) = mkS ((l.drop a).take b) := by
  subst hi hj
  rw [slice_nat _ _ _ (by (first | lia | omega)), show a + b - a = b by (first | lia | omega)]
theorem slice_neg1 (l : T) {i : Int} (a : Nat) (hi : i = (a : Int)) (ha : a < l.length) : Txt.slice (mkS l) (some i) (some (-1)) = mkS ((l.drop a).dropLast) := by
  subst hi
  rw [show (-1 : Int) = -((1 : Nat) : Int) from rfl, slice_neg _ _ 1 (by (first | lia | omega)) (by (first | lia | omega)) (by (first | lia | omega)), List.dropLast_eq_take, List.length_drop]
  congr 2; (first | lia | omega)
theorem slice_fr (l : T) {i : Int} (a : Nat) (hi : i = (a : Int)) : Txt.slice (mkS l) (some i) none = mkS (l.drop a) := by
  subst hi; exact slice_from l a
end
end Ku
end
section
open PySem PySem.W PyProof.Rows
open PySem PySem.W PyProof.Rows PySem.Calls PySem.NumText
namespace Ku
noncomputable def hexL : List Nat := [48, 49, 50, 51, 52, 53, 54, 55, 56, 57, 65, 66, 67, 68, 69, 70, 97, 98, 99, 100, 101, 102]
theorem hex_facts : ∀ a ∈ hexL, ∀ b ∈ hexL, sign ([a, b].dropWhile blank) = (false, [a, b]) ∧ based 16 [a, b] = (16, false, [a, b]) ∧ digits? 16 (([a, b].reverse.dropWhile blank).reverse) = some #[hexV a, hexV b] := by decide +kernel
theorem hex_plain : ∀ a ∈ hexL, a < 128 ∧ a ≠ 0 := by decide
theorem hex_reads {a b : Nat} (ha : a ∈ hexL) (hb : b ∈ hexL) : (int_private% "readNumeral") 0 16 [a, b] = (int_private% "Numeral.value") (((hexV a * 16 + hexV b : Nat)) : Int) := by
  obtain ⟨h1, h2, h3⟩ := hex_facts a ha b hb
  rw [readNumeral_eq, h1]
  simp only
  rw [h2]
  simp only
  rw [h3]
  unfold judge
  simp
theorem isHex_mem {c : Nat} (h : isHex c = true) : c ∈ hexL := by
  have h1 : c < 128 := by simp [isHex] at h; (first | lia | omega)
  have : ∀ x < 128, isHex x = true → x ∈ hexL := by decide
  exact this c h1 h
theorem mem_isHex {c : Nat} (h : c ∈ hexL) : isHex c = true := by
  have : ∀ x ∈ hexL, isHex x = true := by decide
  exact this c h
theorem wp_text16 {M : Model} {A : Around} {E : Value → Shared → Prop} {s : Shared} {Q : Value → Shared → Prop} {v : Value} {text : List Nat} {n : Int}
    (hs : (text.takeWhile (· != 0)).length ≤ 640) (hr : (int_private% "readNumeral") 0 16 (text.takeWhile (· != 0)) = (int_private% "Numeral.value") n)
    (ha : ((text.takeWhile (· != 0)).length == text.length) = true) (h : Q (.int n s.toks) { s with toks := s.toks + 1 }) :
    wpAny M A ((int_private% "intFromText") v text 16) Q E s := by
  obtain ⟨hp, g, d, tk, os⟩ := s
  wp_delta; ((with_reducible refine wpAny_ite_true (decide_eq_true hs) ?_)); (with_reducible refine PySem.wpAny_bind ?_); (with_reducible refine PySem.wpAny_pure ?_); wp_delta
  all_goals (try rw [hr])
  all_goals (try dsimp only)
  ((with_reducible refine wpAny_ite_true (decide_eq_true ha) ?_)); (with_reducible refine PySem.wpAny_mkInt' ?_); assumption
structure Hid (p : Prop) : Prop where
  out : p
theorem typeCall_int_2 (a b : Value) : checkTypeCall "int" ⟨[a, b], []⟩ = pure () := by kernel_rfl
theorem newCall_int_2 (a b : Value) : checkBuiltinCall "int.__new__" ⟨[.type "int", a, b], []⟩ = pure () := by kernel_rfl
set_option maxHeartbeats 4000000 in
theorem gives_int16 {a b : Nat} {t u : Tok} (ha : a ∈ hexL) (hb : b ∈ hexL) : Gives (Builtin.«int.__new__» ⟨[.type "int", .str (mkS [a, b]) t, .int 16 u], []⟩) (.int ((hexV a * 16 + hexV b : Nat) : Int)) :=
  .of_wp fun M A E s Q h => by
    obtain ⟨hp, g, d, tk, os⟩ := s
    have f1 := F.conv_sub_int
    have f2 := F.madeHere_int
    have f6 : typeOf (.str (mkS [a, b]) t) = pure (.type "str") := rfl
    have pa := hex_plain a ha
    have pb := hex_plain b hb
    have e1 : (mkS [a, b]).cps.all (· < 128) = true := by
      show (#[a, b] : Array Nat).all (· < 128) = true
      simp [pa.1, pb.1]
    have e2 : (mkS [a, b]).cps.toList = [a, b] := rfl
    have e3 : [a, b].takeWhile (· != 0) = [a, b] := by rw [List.takeWhile_cons_of_pos (by simpa using pa.2), List.takeWhile_cons_of_pos (by simpa using pb.2)]; rfl
    have hT : (if (mkS [a, b]).cps.all (· < 128) then (mkS [a, b]).cps.toList else Unicode.numberText (mkS [a, b]).cps.toList) = [a, b] := by rw [if_pos e1, e2]
    have hk := Hid.mk (And.intro (hex_reads ha hb) (And.intro e3 hT))
    clear ha hb pa pb e3 e1 e2 hT
    wp_delta; (with_reducible refine PySem.wpAny_bind ?_); wp_delta; (with_reducible refine PySem.wpAny_pure ?_); ((with_reducible apply PySem.wpAny_ite_false); focus (rfl; done)); (with_reducible refine PySem.wpAny_bind ?_); (with_reducible refine PySem.wpAny_of_eq (by assumption) ?_); ((with_reducible apply PySem.wpAny_ite_false); focus (rfl; done)); (with_reducible refine PySem.wpAny_bind ?_); (with_reducible refine PySem.wpAny_of_eq (by assumption) ?_); ((with_reducible apply PySem.wpAny_ite_false); focus (rfl; done)); ((with_reducible apply PySem.wpAny_ite_false); focus (rfl; done)); (with_reducible refine PySem.wpAny_bind ?_); wp_delta; wp_delta; wp_delta; wp_delta; (with_reducible refine PySem.wpAny_pure ?_); wp_delta; (with_reducible refine PySem.wpAny_bind ?_); wp_delta; (with_reducible refine PySem.wpAny_bind ?_); wp_delta; (with_reducible refine PySem.wpAny_bind ?_); wp_delta; (with_reducible refine PySem.wpAny_pure ?_); ((with_reducible apply PySem.wpAny_ite_true); focus (rfl; done)); (with_reducible refine PySem.wpAny_pure ?_); (with_reducible refine PySem.wpAny_bind ?_); wp_delta; (with_reducible refine PySem.wpAny_pure ?_); (with_reducible refine PySem.wpAny_pure ?_); ((with_reducible apply PySem.wpAny_ite_false); focus (rfl; done)); (with_reducible refine PySem.wpAny_bind ?_); wp_delta; (with_reducible refine PySem.wpAny_bind ?_); wp_delta; (with_reducible refine PySem.wpAny_pure ?_); (with_reducible refine PySem.wpAny_pure ?_); (with_reducible refine PySem.wpAny_bind ?_); (((with_reducible show wpAny _ _ ((int_private% "intFromText") _ _ _) _ _ _); (show wpAny _ _ ((int_private% "intFromText") _ _ 16) _ _ _); refine wp_text16 (n := ((hexV a * 16 + hexV b : Nat) : Int)) ?x1 ?x2 ?x3 ?x4; (case x1 => (rw [hk.out.2.2, hk.out.2.1]; exact Nat.le_of_ble_eq_true rfl)); (case x2 => (rw [hk.out.2.2, hk.out.2.1]; exact hk.out.1)); (case x3 => (rw [hk.out.2.2, hk.out.2.1]; exact beq_self_eq_true _)))); ((with_reducible apply PySem.wpAny_ite_true); focus (rfl; done)); wp_delta; (with_reducible refine PySem.wpAny_pure ?_)
    all_goals exact ⟨_, rfl, h⟩
section
variable {prog : Program} {w : World} {A : Around} {E : Value → Shared → Prop} {s₀ : Shared} {h : Heap} {k : Nat}
theorem o_int16 {a b : Nat} {t u : Tok} {Q : Value → Shared → Prop} (ha : isHex a = true) (hb : isHex b = true) (hq : ∀ t k', Q (.int ((hexV a * 16 + hexV b : Nat) : Int) t) (S s₀ h k')) :
    wpAny (model prog w) A (call (.type "int") [.str (mkS [a, b]) t, .int 16 u]) Q E (S s₀ h k) :=
  callType_new F.called_int F.newNe_int (typeCall_int_2 _ _) (newCall_int_2 _ _) (fun obj => F.args_object_init_3 obj _ _) F.entry_int_new (gives_int16 (isHex_mem ha) (isHex_mem hb)).meets
    (show (Made.int ((hexV a * 16 + hexV b : Nat) : Int)).post _ (S s₀ h k) from ⟨rfl, hq _ _⟩)
end
end Ku
end
section
open PySem PySem.W PyProof.Rows
open PySem PySem.W PyProof.Rows PySem.Calls
namespace Ku
open Builtin Builtin.Str StrLaws
/-! ### rstrip -/
theorem take_hi (p : Nat → Bool) (l : T) : l.take (l.length - (l.reverse.takeWhile p).length) = (l.reverse.dropWhile p).reverse := by
  have h := List.takeWhile_append_dropWhile (p := p) (l := l.reverse)
  have h2 : l = (l.reverse.dropWhile p).reverse ++ (l.reverse.takeWhile p).reverse := by
    rw [← List.reverse_append, h, List.reverse_reverse]
  have h3 : l.length - (l.reverse.takeWhile p).length = ((l.reverse.dropWhile p).reverse).length := by
    have := congrArg List.length h2
    simp only [List.length_append, List.length_reverse] at this ⊢; (first | lia | omega)
  rw [h3]
  conv => lhs; rw [h2]
  rw [List.take_left' (by simp)]
theorem dropWhile_congr (p q : Nat → Bool) : ∀ l : T, (∀ c ∈ l, p c = q c) → l.dropWhile p = l.dropWhile q
  | [], _ => rfl
  | c :: r, h => by
    rw [List.dropWhile_cons, List.dropWhile_cons, h c (by simp), dropWhile_congr p q r fun x hx => h x (by simp [hx])]
theorem rstrip_eq (l : T) (hl : ∀ c ∈ l, Unicode.isSpace c = isWs c) : Txt.rstrip (mkS l) = mkS (rstripT l) := by
  unfold Txt.rstrip rstripT
  rw [PyProof.Rows.stripBy_eq]
  unfold stripLo stripHi
  simp only [Bool.false_eq_true, if_false, if_true, List.drop_zero]
  rw [strSub_mkS, mkS_toList, mkS_len, List.drop_zero, Nat.sub_zero, take_hi, dropWhile_congr _ isWs _ fun c hc => hl c (by simpa using hc)]
/-! ### endswith -/
theorem ends_eq (l r : T) : Txt.endswith (mkS l) (mkS r) = endsW l r := by
  unfold Txt.endswith endsW
  rw [subAt_eq, mkS_len, mkS_len, mkS_toList, mkS_toList, Nat.zero_add, Bool.and_comm]
  by_cases h : r.length ≤ l.length
  · rw [List.take_of_length_le (by rw [List.length_drop]; (first | lia | omega))]
  · rw [decide_eq_false h, Bool.and_false, Bool.and_false]
/-! ### split, replace -/
theorem At_mkS (x e : T) (k : Nat) : At (mkS x) (mkS e) (mkS x).length k ↔ k + e.length ≤ x.length ∧ (x.drop k).take e.length = e := by
  unfold At
  rw [mkS_len, mkS_len, subAt_eq, mkS_toList, mkS_toList, mkS_len]
  simp
theorem parts_eq {x e : T} {b : Nat} {e' : T} (he : e = b :: e') (hb : b = 10 ∨ b = 13) : ∀ (pieces : List T) (a : Nat) (cuts : List Nat) (f : Nat), pieces ≠ [] → (∀ p ∈ pieces, NoBr p) → x.drop a = joinT e pieces → a ≤ x.length →
    ChainG (mkS x) (mkS e) (mkS x).length a cuts f → (∀ k, f ≤ k → ¬ At (mkS x) (mkS e) (mkS x).length k) → partsFrom (mkS x) (mkS e).length a cuts = pieces.map mkS
  | [], _, _, _, h, _, _, _, _, _ => absurd rfl h
  | p :: r, a, cuts, f, _, hn, hx, ha, hG, hF => by
    have notIn : ∀ k, a ≤ k → k < a + p.length → ¬ At (mkS x) (mkS e) (mkS x).length k := by
      intro k h1 h2 hA
      rw [At_mkS] at hA
      obtain ⟨h3, h4⟩ := hA
      have h5 : (x.drop k)[0]? = some b := by
        have : ((x.drop k).take e.length)[0]? = some b := by rw [h4, he]; rfl
        rw [List.getElem?_take_of_lt (by rw [he]; simp)] at this
        exact this
      have h6 : (x.drop a)[k - a]? = some b := by
        rw [List.getElem?_drop] at h5 ⊢
        rw [show a + (k - a) = k + 0 by (first | lia | omega)]; exact h5
      have h7 : p[k - a]? = some b := by
        rw [hx] at h6
        cases r with
        | nil => exact h6
        | cons q r' =>
          rw [joinT_cons (by simp), List.getElem?_append_left (by (first | lia | omega))] at h6
          exact h6
      have := hn p (by simp) b (List.mem_of_getElem? h7)
      (first | lia | omega)
    cases r with
    | nil =>
      have hx' : x.drop a = p := hx
      have hlen : x.length = a + p.length := by have := congrArg List.length hx'; rw [List.length_drop] at this; (first | lia | omega)
      have hep : 1 ≤ e.length := by rw [he]; simp
      cases cuts with
      | nil =>
        show [strSub (mkS x) a (mkS x).length] = [mkS p]
        rw [strSub_mkS, mkS_len, hx', List.take_of_length_le (by (first | lia | omega))]
      | cons c cs =>
        exfalso
        obtain ⟨h1, h2, _, _⟩ := hG
        have h3 := (At_mkS x e c).mp h2
        exact notIn c h1 (by (first | lia | omega)) h2
    | cons q r' =>
      rw [joinT_cons (by simp)] at hx
      have hlen : x.length - a = p.length + (e.length + (joinT e (q :: r')).length) := by have := congrArg List.length hx; simpa using this
      have hat : At (mkS x) (mkS e) (mkS x).length (a + p.length) := by
        rw [At_mkS]
        refine ⟨by (first | lia | omega), ?_⟩
        rw [← List.drop_drop, hx, List.drop_left' rfl, List.take_left' rfl]
      have hdr : x.drop (a + p.length + e.length) = joinT e (q :: r') := by
        rw [← List.drop_drop, ← List.drop_drop, hx, List.drop_left' rfl, List.drop_left' rfl]
      cases cuts with
      | nil =>
        exfalso
        have e1 : f = a := hG
        exact hF (a + p.length) (by (first | lia | omega)) hat
      | cons c cs =>
        obtain ⟨h1, h2, h3, h4⟩ := hG
        have hc : c = a + p.length := by
          rcases Nat.lt_trichotomy c (a + p.length) with h | h | h
          · exact absurd h2 (notIn c h1 h)
          · exact h
          · exact absurd hat (h3 _ (by (first | lia | omega)) h)
        subst hc
        show strSub (mkS x) a (a + p.length) :: partsFrom (mkS x) (mkS e).length (a + p.length + (mkS e).length) cs = mkS p :: (q :: r').map mkS
        rw [parts_eq he hb (q :: r') (a + p.length + (mkS e).length) cs f (by simp) (fun y hy => hn y (by simp [List.mem_cons.mp hy])) (by rw [mkS_len]; exact hdr) (by rw [mkS_len]; (first | lia | omega)) h4 hF, strSub_mkS]
        rw [hx, show a + p.length - a = p.length by (first | lia | omega), List.take_left' rfl]
theorem parts_join {e : T} {b : Nat} {e' : T} (he : e = b :: e') (hb : b = 10 ∨ b = 13) {pieces : List T} (hne : pieces ≠ []) (hn : ∀ p ∈ pieces, NoBr p) :
    partsBetween (mkS (joinT e pieces)) (occurrences (mkS (joinT e pieces)) (mkS e) 0 (mkS (joinT e pieces)).length ((mkS (joinT e pieces)).length + 1)) (mkS e).length = pieces.map mkS := by
  obtain ⟨f, hG, hF⟩ := occ_tight (mkS (joinT e pieces)) (mkS e) (by rw [mkS_len, he]; simp)
  rw [partsBetween_eq]
  exact parts_eq he hb pieces 0 _ f hne hn rfl (Nat.zero_le _) hG hF
theorem kind_pos (x : Str) : 1 ≤ Builtin.Str.strKind x := by unfold Builtin.Str.strKind; split <;> (try split) <;> (try split) <;> (first | lia | omega)
theorem split_join {e : T} {b : Nat} {e' : T} (he : e = b :: e') (hb : b = 10 ∨ b = 13) (hk : Builtin.Str.strKind (mkS e) = 1) {pieces : List T} (hne : pieces ≠ []) (hn : ∀ p ∈ pieces, NoBr p) : Txt.split (mkS (joinT e pieces)) (mkS e) = pieces.map mkS := by
  have hp := parts_join he hb hne hn
  have hocc : (occurrences (mkS (joinT e pieces)) (mkS e) 0 (mkS (joinT e pieces)).length ((mkS (joinT e pieces)).length + 1)).length + 1 = pieces.length := by
    have := congrArg List.length hp
    rw [length_partsBetween, List.length_map] at this; exact this
  unfold Txt.split
  split
  · rename_i h
    rw [hk] at h
    have := kind_pos (mkS (joinT e pieces))
    rw [Bool.or_eq_true, decide_eq_true_eq, decide_eq_true_eq] at h
    have h2 : (joinT e pieces).length < e.length := by
      rcases h with h | h
      · simpa [mkS_len] using h
      · (first | lia | omega)
    cases pieces with
    | nil => exact absurd rfl hne
    | cons p r =>
      cases r with
      | nil => rfl
      | cons q r' => rw [joinT_cons (by simp)] at h2; simp at h2; (first | lia | omega)
  · split
    · rename_i h
      rw [List.isEmpty_iff.mp h] at hocc
      cases pieces with
      | nil => exact absurd rfl hne
      | cons p r =>
        cases r with
        | nil => rfl
        | cons q r' => simp at hocc
    · exact hp
theorem replace_join {e z : T} {b : Nat} {e' : T} (he : e = b :: e') (hb : b = 10 ∨ b = 13) {pieces : List T} (hne : pieces ≠ []) (hn : ∀ p ∈ pieces, NoBr p) : Txt.replace (mkS (joinT e pieces)) (mkS e) (mkS z) = mkS (joinT z pieces) := by
  have hp := parts_join he hb hne hn
  have hocc : (occurrences (mkS (joinT e pieces)) (mkS e) 0 (mkS (joinT e pieces)).length ((mkS (joinT e pieces)).length + 1)).length + 1 = pieces.length := by
    have := congrArg List.length hp
    rw [length_partsBetween, List.length_map] at this; exact this
  unfold Txt.replace
  split
  · rename_i h
    have h0 : ((mkS e).length == 0) = false := by rw [mkS_len, he]; rfl
    rw [h0, Bool.false_and, Bool.or_false] at h
    rw [List.isEmpty_iff.mp h] at hocc
    cases pieces with
    | nil => exact absurd rfl hne
    | cons p r =>
      cases r with
      | nil => rfl
      | cons q r' => simp at hocc
  · rw [hp]; exact glued_joinT z pieces
section
variable {prog : Program} {w : World} {A : Around} {E : Value → Shared → Prop} {s₀ : Shared} {h h₀ : Heap} {k : Nat} {L : Addr} {m : Str → Option Value} {news : List (Addr × Obj)} {l r e : T} {t u v : Tok}
theorem o_rstrip {Q : Value → Shared → Prop} (hl : ∀ c ∈ l, Unicode.isSpace c = isWs c) (hsz : l.length ≤ 10000) (hq : ∀ t k', Q (.str (mkS (rstripT l)) t) (S s₀ h k')) : wpAny (model prog w) A (call (.builtin "str.rstrip") [.str (mkS l) t]) Q E (S s₀ h k) := by
  refine SC.rstrip (s := S s₀ h k) (fun t' k' => ?_) (by rw [mkS_len]; unfold sizeLine; (first | lia | omega))
  rw [rstrip_eq l hl]; exact hq t' k'
theorem o_endswith {Q : Value → Shared → Prop} (hq : Q (.bool (endsW l r)) (S s₀ h k)) : wpAny (model prog w) A (call (.builtin "str.endswith") [.str (mkS l) t, .str (mkS r) u]) Q E (S s₀ h k) := by
  refine SC.endswith ?_
  rw [ends_eq]; exact hq
theorem o_split {b : Nat} {e' : T} {pieces : List T} {Q : Value → Shared → Prop} (F : Fr h₀ L h m) (N : News h₀ L h news) (he : e = b :: e') (hb : b = 10 ∨ b = 13) (hk : Builtin.Str.strKind (mkS e) = 1) (hne : pieces ≠ []) (hn : ∀ p ∈ pieces, NoBr p) (hsz : (joinT e pieces).length ≤ 10000)
    (hq : ∀ D ls h' k', ls.map (·.1) = pieces.map mkS → Fr h₀ L h' m → News h₀ L h' ((D, listOf (strValues ls).toArray 0) :: news) → D ≠ L → (∀ p ∈ news, p.1 ≠ D) → Q (.ref D) (S s₀ h' k')) :
    wpAny (model prog w) A (call (.builtin "str.split") [.str (mkS (joinT e pieces)) t, .str (mkS e) u]) Q E (S s₀ h k) := by
  refine splitN1 (s := S s₀ h k) F N (by rw [mkS_len, he]; rfl) (fun ls h' k' e1 F' N' => ?_) (by rw [mkS_len]; unfold sizeLine; (first | lia | omega))
  rw [split_join he hb hk hne hn] at e1
  exact hq _ ls h' k' e1 F' N' (N' _ (.head _)).2.1 fun p hp => Nat.ne_of_lt (Heap.lt_size (N p hp).1)
theorem o_replace {b : Nat} {e' z : T} {pieces : List T} {Q : Value → Shared → Prop} (hu : u ≠ 0) (hv : v ≠ 0) (huv : u ≠ v) (hez : e ≠ z) (he : e = b :: e') (hb : b = 10 ∨ b = 13) (hne : pieces ≠ []) (hn : ∀ p ∈ pieces, NoBr p) (hsz : (joinT e pieces).length ≤ 10000) (hz : z.length ≤ 10)
    (hq : ∀ t k', Q (.str (mkS (joinT z pieces)) t) (S s₀ h k')) :
    wpAny (model prog w) A (call (.builtin "str.replace") [.str (mkS (joinT e pieces)) t, .str (mkS e) u, .str (mkS z) v]) Q E (S s₀ h k) := by
  refine SC.replace (s := S s₀ h k) hu hv huv (by rw [mkS_beq]; exact decide_eq_false hez) ?_ fun t' k' => ?_
  · rw [mkS_len, mkS_len]
    have := Nat.mul_le_mul (show (joinT e pieces).length + 1 ≤ 10001 by (first | lia | omega)) hz
    (first | lia | omega)
  · rw [replace_join he hb hne hn]; exact hq t' k'
end
end Ku
end
open PySem PySem.W PyProof.Rows
namespace Ku
local macro_rules | `(tactic| wtm_at "ku_txt") => `(tactic| first | exact l_tab | exact l_sp | exact l_tilde | exact l_eq | exact l_empty | exact l_hex | exact l_n | exact l_dot | exact l_20 | exact l_09 | exact l_nl | exact l_cr | exact l_crlf | exact l_sptab | exact l_eqnl | exact l_getitem | exact l_msg)
local macro_rules | `(tactic| wtm_at "ku_lit") => `(tactic| ((case hp => (conv => lhs; whnf); (try exact rfl)); (case hb => (conv => lhs; whnf); (try exact rfl)); (case hs => (conv => lhs; whnf); (try exact rfl)); (case hcell => decide); (case hloc => exact locs rfl); (case hco => exact rfl); (case hgen => exact rfl); (case hk => exact rfl)))
local macro_rules | `(tactic| wtm_at "ku_bind0") => `(tactic| (case hbind => (intro dv kV doc pm an cdv ct h1 _; cases h1 rfl; exact BindsTo.of_eq rfl)))
local macro_rules | `(tactic| wtm_at "ku_side") => `(tactic| first | decide | omega | (simp only [List.length_append, List.length_cons, List.length_nil, List.length_replicate]; omega))
local macro_rules | `(tactic| wtm_at "ku_op") => `(tactic| first
  | ((with_reducible first | refine o_add ?_ | refine o_sub ?_ | refine o_iadd ?_ | refine o_neg ?_ | refine o_ord ?_); intro _ _)
  | (with_reducible first | refine o_eq ?_ | refine o_ne ?_ | refine o_lt ?_ | refine o_le ?_ | refine o_gt ?_ | refine o_ge ?_ | refine o_seq ?_ | refine o_sne ?_ | refine o_sle ?_ | refine o_sin ?_ | refine t_bool ?_)
  | ((fail_if_success (with_reducible show wpAny _ _ (binaryOp _ (Value.str (mkS [32, 9]) _) _) _ _ _)); (with_reducible first | refine o_len ?hl ?_ | refine o_cat ?hl ?_ | refine o_icat ?hl ?_ | refine o_mod ?hl ?_); (case hl => wtm_at "ku_side"); intro _ _)
  | ((with_reducible first | refine o_div ?hl ?hl2 ?_ | refine o_mul ?hl ?hl2 ?_); (case hl => wtm_at "ku_side"); (case hl2 => wtm_at "ku_side"); intro _ _)
  | (with_reducible refine o_newlist (by with_reducible assumption) (by with_reducible assumption) (by wtm_at "ku_side") ?_; intro _ _ _ _ _)
  | (with_reducible refine o_newtuple (by with_reducible assumption) (by with_reducible assumption) (by wtm_at "ku_side") ?_; intro _ _ _ _ _)
  | (with_reducible refine t_str ?hl ?_; (case hl => wtm_at "ku_side"); intro _))
local macro_rules | `(tactic| wtm_at "lk") => `(tactic| first | with_reducible assumption | (with_reducible exact look_hd) | ((with_reducible refine' look_tl ?lkne ?lkr); (case lkne => decide); (case lkr => wtm_at "lk")) | with_unfolding_all rfl)
local macro_rules | `(tactic| wtm_at "ku_name") => `(tactic| ((with_reducible show wpAny _ _ (eval (PySem.Expr.Name _ _) _) _ _ _); first
  | (refine k_local (by with_reducible assumption) (by wtm_at "lk") ?_ (by rfl) (by rfl) (by decide))
  | (refine k_glob (by with_reducible assumption) (by with_reducible assumption) (by with_reducible assumption) ?_ (by rfl) (by rfl) (by decide))
  | (refine k_bi (by with_reducible assumption) (by with_reducible assumption) (by decide) (by boot_by_name) ?_ (by decide) (by rfl) (by rfl) (by decide))))
local macro_rules | `(tactic| wtm_at "ku_base") => `(tactic| first
  | (with_reducible first | refine k_cont ?_ | refine k_return ?_ | refine k_continue ?_ | refine k_if ?_ | refine k_aug ?_ | refine k_bool ?_ | refine k_none ?_ | refine k_bin ?_ | refine k_un ?_ | refine k_sub ?_ | refine t_link ?_ | refine t_last ?_ | refine t_not ?_ | refine t_and ?_ | refine t_or ?_ | refine k_args0 ?_ | refine k_part ?_ | refine k_part0 ?_ | refine k_with_bi0 ?_ | refine g_translate ?_ | refine g_splitlines ?_ | refine g_rstrip ?_ | refine g_join ?_ | refine g_endswith ?_ | refine g_replace ?_ | refine g_split ?_)
  | (with_reducible refine k_int ?_; intro _ _)
  | ((with_reducible show wpAny _ _ (exec (Stmt.Expr _ _) _) _ _ _); refine k_expr ?_)
  | ((with_reducible show wpAny _ _ (eval (PySem.Expr.Compare _ [_] [_] _) _) _ _ _); refine k_cmp ?_)
  | ((with_reducible show wpAny _ _ (isTrue (PySem.Expr.Compare _ [_] [_] _) _ _) _ _ _); refine t_cmp ?_)
  | ((with_reducible show wpAny _ _ (isTrue (PySem.Expr.Compare _ [_, _] [_, _] _) _ _) _ _ _); refine t_chain ?_)
  | ((with_reducible show wpAny _ _ (eval (PySem.Expr.List _ _) _) _ _ _); refine k_list ?_)
  | ((with_reducible show wpAny _ _ (eval (PySem.Expr.Tuple _ _ _) _) _ _ _); refine k_tuple ?_)
  | ((with_reducible show wpAny _ _ (spliced (backTo _ (starEach (_ :: _) _))) _ _ _); refine k_args ?_)
  | ((with_reducible show wpAny _ _ (callWith _ (Value.builtin _) [] (backTo _ (starEach (_ :: _) _)) []) _ _ _); refine k_with_bi ?_)
  | ((with_reducible show wpAny _ _ (callWith _ (Value.builtin _) [_] (backTo _ (starEach (_ :: _) _)) []) _ _ _); refine k_with_m ?_)
  | ((with_reducible show wpAny _ _ (callWith _ (Value.type _) [] (backTo _ (starEach (_ :: _) _)) []) _ _ _); refine k_with_ty ?_)
  | ((with_reducible show wpAny _ _ (eval (PySem.Expr.Call (PySem.Expr.Attribute _ _ _) _ [] _) _) _ _ _); refine k_mcall ?_)
  | ((with_reducible show wpAny _ _ (eval (PySem.Expr.Call _ _ [] _) _) _ _ _); refine k_call ?_))
local macro_rules | `(tactic| wtm_at "ku_fin") => `(tactic| first
  | wtm_at "ku_name"
  | ((with_reducible show wpAny _ _ (storeName _ _ _) _ _ _); refine k_store (by with_reducible assumption) (by with_reducible assumption) ?_ (by rfl) (by rfl); intro _ _ _ _)
  | ((with_reducible show wpAny _ _ (loadName _ _) _ _ _); refine k_load (by with_reducible assumption) (by wtm_at "lk") ?_ (by rfl) (by rfl))
  | ((with_reducible first | show wpAny _ _ (isTrue (PySem.Expr.Name _ _) _ _) _ _ _ | show wpAny _ _ (isTrue (PySem.Expr.Call _ _ _ _) _ _) _ _ _); refine t_plain ?_))
section
local macro_rules | `(tactic| wtm_at "ku") => `(tactic| first
  | (with_reducible first | refine k_cons ?_ | refine k_nil ?_ | refine k_next ?_ | refine k_ret ?_ | refine k_ifexp ?_)
  | ((with_reducible show wpAny _ _ (exec (Stmt.Assign [PySem.Expr.Name _ _] _ _) _) _ _ _); refine k_assign ?_)
  | (with_reducible refine k_str (by wtm_at "ku_txt") ?_; intro _ _)
  | wtm_at "ku_base" | wtm_at "ku_op" | wtm_at "ku_fin")
section
section
variable {w : World} {A : Around} {E : Value → Shared → Prop} {s₀ : Shared} {h : Heap} {k : Nat} {d : Ad} {mg mb : Str → Option Value}
theorem c_quote {n : Nat} {c : Nat} {t : Tok} {Q : Value → Shared → Prop} (G : Glb d mg mb h) (hA : AOk A (n + 1)) (hc : c < 256) (hQ : ∀ tk h' k', Ext h h' → Q (.str (mkS (esc c)) tk) (S s₀ h' k')) :
    wpAny (model prog w) A (call (.ref d.quote) [.str (mkS [c]) t]) Q E (S s₀ h k) := by
  refine' k_enter (i := 15) [(Str.ofString "c", .str (mkS [c]) t)] G G.quote hA ?hp ?hb ?hs ?hbind ?hcell ?hloc ?hco ?hgen ?hk ?_
  wtm_at "ku_lit"
  wtm_at "ku_bind0"
  intro h₁ k₁ L cdv A' Qf hA' hR F N
  have hn := G.nqmap
  repeat' wtm_at "ku"
  refine o_tab (G.qmap.keeps F.keep) hc ?_; intro _
  exact hR _ _ _ (hQ _ _ _ F.keep)
end
end
section
section
variable {w : World} {A : Around} {E : Value → Shared → Prop} {s₀ : Shared} {h : Heap} {k : Nat} {d : Ad} {mg mb : Str → Option Value}
theorem e_append {h₀ : Heap} {q D L : Addr} {own : List (Addr × Obj)} {m : Str → Option Value} {ls : List (Str × Tok)} {c : Nat} {x : Str} {t : Tok} {Q : Value → Shared → Prop} (F : Fr h₀ L h m) (N : News h₀ L h (own ++ [(q, boundA D), (D, listOf (strValues ls).toArray c)])) (hown : ∀ p ∈ own, p.1 ≠ D) (hqD : q ≠ D) (hsz : ls.length ≤ 5000)
    (hd : ∀ h', Fr h₀ L h' m → News h₀ L h' (own ++ [(q, boundA D), (D, listOf (strValues (ls ++ [(x, t)])).toArray (c + 1))]) → Q .none (S s₀ h' k)) : wpAny (model prog w) A (call (.ref q) [.str x t]) Q E (S s₀ h k) := by
  have e : own ++ [(q, boundA D), (D, listOf (strValues ls).toArray c)] = (own ++ [(q, boundA D)]) ++ (D, listOf (strValues ls).toArray c) :: [] := by simp
  have hb : h.get? q = some (boundA D) := (N (q, boundA D) (by simp)).1
  rw [e] at N
  refine k_call_append F N ?_ (by simp) hb (by simpa [strValues] using hsz) fun h' F' N' => hd h' F' ?_
  · intro p hp
    rcases List.mem_append.mp hp with hp | hp
    · exact hown p hp
    · rw [List.mem_singleton.mp hp]; exact hqD
  · have e2 : (strValues ls).toArray.push (.str x t) = (strValues (ls ++ [(x, t)])).toArray := by simp [strValues]
    rw [e2] at N'
    simpa using N'
theorem bm_len : ∀ c < 256, (bm c).length ≤ 3 := by decide
theorem bm_brk : ∀ c < 256, ∀ x ∈ bm c, Unicode.isLineBreak x = brk x := by decide +kernel
theorem trans_len {l : T} (hl : ∀ c ∈ l, c < 256) : (trans l).length ≤ 3 * l.length := len_flat bm_len l hl
theorem trans_brk {l : T} (hl : ∀ c ∈ l, c < 256) : ∀ c ∈ trans l, Unicode.isLineBreak c = brk c := by
  intro c hc
  obtain ⟨x, hx, hc⟩ := List.mem_flatMap.mp hc
  exact bm_brk x (hl x hx) c hc
theorem bm_ne : ∀ c < 256, bm c ≠ [] := by decide
theorem bm_lt : ∀ c < 256, ∀ x ∈ bm c, x < 256 := by decide
theorem trans_lt {l : T} (hl : ∀ c ∈ l, c < 256) : ∀ c ∈ trans l, c < 256 := by
  intro c hc
  obtain ⟨x, hx, hc⟩ := List.mem_flatMap.mp hc
  exact bm_lt x (hl x hx) c hc
theorem trans_ne {l : T} (hl : ∀ c ∈ l, c < 256) (h : l ≠ []) : trans l ≠ [] := by
  cases l with
  | nil => exact absurd rfl h
  | cons a r =>
    have := bm_ne a (hl a (by simp))
    intro e
    rw [trans, List.flatMap_cons] at e
    exact this (List.append_eq_nil_iff.mp e).1
theorem splitL_mem {c : Nat} : ∀ {x acc : T} {y : T}, y ∈ splitL x acc → c ∈ y → c ∈ x ∨ c ∈ acc
  | [], acc, y, hy, hc => by
    rw [splitL] at hy
    split at hy
    · simp at hy
    · rw [List.mem_singleton.mp hy] at hc; exact .inr hc
  | [a], acc, y, hy, hc => by
    rw [splitL] at hy
    split at hy
    · rw [List.mem_singleton.mp hy] at hc; exact .inr hc
    · rw [List.mem_singleton.mp hy] at hc
      rcases List.mem_append.mp hc with hc | hc
      · exact .inr hc
      · exact .inl hc
  | a :: b :: t, acc, y, hy, hc => by
    rw [splitL] at hy
    split at hy
    · rcases List.mem_cons.mp hy with rfl | hy
      · exact .inr hc
      · rcases splitL_mem hy hc with h | h
        · exact .inl (by simp [h])
        · simp at h
    · split at hy
      · rcases List.mem_cons.mp hy with rfl | hy
        · exact .inr hc
        · rcases splitL_mem hy hc with h | h
          · exact .inl (by simp at h ⊢; right; exact h)
          · simp at h
      · rcases splitL_mem hy hc with h | h
        · exact .inl (by simp at h ⊢; right; exact h)
        · rcases List.mem_append.mp h with h | h
          · exact .inr h
          · exact .inl (by simp at h ⊢; left; exact h)
noncomputable def EncLk (l eol : T) (mm : Nat) (q D : Addr) (vs : List (Str × Value)) : Prop :=
  (∃ u, look vs (Str.ofString "eol") = some (.str (mkS eol) u)) ∧ (∃ u, look vs (Str.ofString "soft_break") = some (.str (mkS (61 :: eol)) u)) ∧ (∃ u, look vs (Str.ofString "maxlinelen") = some (.int (mm : Int) u)) ∧
  (∃ u, look vs (Str.ofString "maxlinelen1") = some (.int ((mm : Int) - 1) u)) ∧ look vs (Str.ofString "encoded_body") = some (.ref D) ∧ look vs (Str.ofString "append") = some (.ref q) ∧ (∃ u, look vs (Str.ofString "body") = some (.str (mkS (trans l)) u))
theorem EncLk.tl {l eol : T} {mm : Nat} {q D : Addr} {vs : List (Str × Value)} {x : Str} {v : Value} (H : EncLk l eol mm q D vs)
    (hx : ∀ y ∈ [Str.ofString "eol", Str.ofString "soft_break", Str.ofString "maxlinelen", Str.ofString "maxlinelen1", Str.ofString "encoded_body", Str.ofString "append", Str.ofString "body"], y ≠ x := by decide) : EncLk l eol mm q D ((x, v) :: vs) := by
  obtain ⟨⟨_, a⟩, ⟨_, b⟩, ⟨_, c⟩, ⟨_, e⟩, f, g, ⟨_, i⟩⟩ := H
  exact ⟨⟨_, look_tl (hx _ (by simp)) a⟩, ⟨_, look_tl (hx _ (by simp)) b⟩, ⟨_, look_tl (hx _ (by simp)) c⟩, ⟨_, look_tl (hx _ (by simp)) e⟩, look_tl (hx _ (by simp)) f, look_tl (hx _ (by simp)) g, ⟨_, look_tl (hx _ (by simp)) i⟩⟩
noncomputable def EncJ (P tail : List T) (own : List (Addr × Obj)) (q D : Addr) (nn : List (Addr × Obj)) : Prop :=
  ∃ (ls : List (Str × Tok)) (c : Nat) (done : List T), ls.map (·.1) = done.map mkS ∧ P = done ++ tail ∧ nn = own ++ [(q, boundA D), (D, listOf (strValues ls).toArray c)]
/-- the append of one piece -/
theorem e_piece {h₀ : Heap} {q D L : Addr} {own nn : List (Addr × Obj)} {m : Str → Option Value} {P tail : List T} {x : T} {t : Tok} {Q : Value → Shared → Prop} (F : Fr h₀ L h m) (N : News h₀ L h nn) (hJ : EncJ P (x :: tail) own q D nn) (hown : ∀ p ∈ own, p.1 ≠ D) (hqD : q ≠ D) (hP : P.length ≤ 5000)
    (hd : ∀ h' nn', Fr h₀ L h' m → News h₀ L h' nn' → EncJ P tail own q D nn' → nn'.map (·.1) = nn.map (·.1) → Q .none (S s₀ h' k)) : wpAny (model prog w) A (call (.ref q) [.str (mkS x) t]) Q E (S s₀ h k) := by
  obtain ⟨ls, c, done, e1, e2, rfl⟩ := hJ
  have hlen : ls.length = done.length := by simpa using congrArg List.length e1
  refine e_append F N hown hqD (by rw [e2] at hP; simp at hP; (first | lia | omega)) fun h' F' N' => hd h' _ F' N' ⟨_, _, done ++ [x], ?_, by rw [e2]; simp, rfl⟩ (by simp)
  rw [List.map_append, e1]; simp
theorem EncJ.bound {P tail : List T} {own : List (Addr × Obj)} {q D L : Addr} {nn : List (Addr × Obj)} {h₀ : Heap} (hJ : EncJ P tail own q D nn) (N : News h₀ L h nn) : h.get? q = some (boundA D) := by
  obtain ⟨ls, c, done, e1, e2, rfl⟩ := hJ
  exact (N (q, boundA D) (by simp)).1
theorem EncJ.keys {P tail : List T} {own : List (Addr × Obj)} {q D : Addr} {nn : List (Addr × Obj)} (hJ : EncJ P tail own q D nn) : nn.map (·.1) = own.map (·.1) ++ [q, D] := by
  obtain ⟨ls, c, done, e1, e2, rfl⟩ := hJ
  simp
theorem vals_at {ls : List (Str × Tok)} {ys : List T} {i : Nat} {v : Value} (e : ls.map (·.1) = ys.map mkS) (hv : (strValues ls)[i]? = some v) : ∃ y t, ys[i]? = some y ∧ v = .str (mkS y) t := by
  unfold strValues at hv
  rw [List.getElem?_map] at hv
  obtain ⟨p, hp, rfl⟩ := Option.map_eq_some_iff.mp hv
  have h1 : (ls.map (·.1))[i]? = some p.1 := by rw [List.getElem?_map, hp]; rfl
  rw [e, List.getElem?_map] at h1
  obtain ⟨y, hy, e2⟩ := Option.map_eq_some_iff.mp h1
  exact ⟨y, p.2, hy, by rw [e2]⟩
noncomputable def EncW (l eol : T) (mm : Nat) (q D : Addr) (P tail : List T) (own : List (Addr × Obj)) (ln : T) (n : Nat) (vs : List (Str × Value)) (nn : List (Addr × Obj)) : Prop :=
  EncLk l eol mm q D vs ∧ (∃ u, look vs (Str.ofString "line") = some (.str (mkS ln) u)) ∧ (∃ u, look vs (Str.ofString "laststart") = some (.int ((ln.length : Int) - 1 - (mm : Int)) u)) ∧
  ∃ st i u, look vs (Str.ofString "start") = some (.int i u) ∧ i = ((st : Nat) : Int) ∧ (ln ≠ [] → st < ln.length) ∧ (ln = [] → st = 0) ∧ EncJ P (encLine mm eol (ln.drop st) ++ tail) own q D nn ∧ n = ln.length - st
theorem fin_some {m c : Nat} {eol r : T} (hc : r.getLast? = some c) : fin m eol r = if c = 32 ∨ c = 9 then
      (if r.length + 2 ≤ m then r.dropLast ++ esc c
       else if r.length + 1 = m then r.dropLast ++ c :: 61 :: eol
       else r.dropLast ++ (61 :: eol ++ esc c)) else r := by
  unfold fin; rw [hc]
theorem fn_here {h₀ : Heap} {L : Addr} {m : Str → Option Value} {news : List (Addr × Obj)} {P : Prop} (F : Fr h₀ L h m) (N : News h₀ L h news) (hq : Fr h₀ L h m → News h₀ L h news → P) : (∃ h' k', S s₀ h k = S s₀ h' k' ∧ Ext h₀ h') ∧ P := ⟨⟨_, _, rfl, F.keep⟩, hq F N⟩
theorem e_join {h₀ : Heap} {q D L : Addr} {nn : List (Addr × Obj)} {P : List T} {eol : T} {t : Tok} {Q : Value → Shared → Prop} (N : News h₀ L h nn) (hJ : EncJ P [] [] q D nn) (hP : P.length ≤ 1002) (hB : ∀ y ∈ P, y.length ≤ 1000) (he : eol.length ≤ 2)
    (hq : ∀ t k', Q (.str (mkS (joinT eol P)) t) (S s₀ h k')) : wpAny (model prog w) A (call (.builtin "str.join") [.str (mkS eol) t, .ref D]) Q E (S s₀ h k) := by
  obtain ⟨ls, c, done, e1, e2, rfl⟩ := hJ
  rw [List.append_nil] at e2
  subst e2
  have hm := N (D, listOf (strValues ls).toArray c) (by simp)
  refine o_join ⟨_, hm.1, rfl, _, rfl⟩ e1 1000 hB ?_ hq
  have h1 : P.length * 1000 ≤ 1002 * 1000 := Nat.mul_le_mul_right _ hP
  have h2 : P.length * eol.length ≤ 1002 * 2 := Nat.mul_le_mul hP he
  (first | lia | omega)
theorem c_encG {n : Nat} {l eol : T} {mm : Nat} {t : Tok} {args : List Value} {Q : Value → Shared → Prop} (G : Glb d mg mb h) (hA : AOk A (n + 2)) (hargs : (∃ u v, args = [.str (mkS l) t, .int (mm : Int) u, .str (mkS eol) v]) ∨ (args = [.str (mkS l) t] ∧ mm = 76 ∧ eol = [10]))
    (hl : ∀ c ∈ l, c < 256) (hsz : l.length ≤ 300) (hm : 4 ≤ mm) (hm2 : mm ≤ 1000) (he : eol.length ≤ 2)
    (hQ : ∀ tk h' k', Ext h h' → Q (.str (mkS (bodyEnc l mm eol)) tk) (S s₀ h' k')) :
    wpAny (model prog w) A (call (.ref d.enc) args) Q E (S s₀ h k) := by
  obtain ⟨dt, du, hD⟩ := G.enc
  obtain ⟨u, v, hu⟩ : ∃ u v, (args = [.str (mkS l) t, .int (mm : Int) u, .str (mkS eol) v]) ∨ (args = [.str (mkS l) t] ∧ mm = 76 ∧ eol = [10] ∧ u = dt ∧ v = du) := by
    rcases hargs with ⟨u, v, q⟩ | ⟨q1, q2, q3⟩
    · exact ⟨u, v, .inl q⟩
    · exact ⟨dt, du, .inr ⟨q1, q2, q3, rfl, rfl⟩⟩
  refine' k_enter (n := n + 1) (i := 19) [(Str.ofString "body", .str (mkS l) t), (Str.ofString "maxlinelen", .int (mm : Int) u), (Str.ofString "eol", .str (mkS eol) v)] G hD hA ?hp ?hb ?hs ?hbind ?hcell ?hloc ?hco ?hgen ?hk ?_
  wtm_at "ku_lit"
  case hbind =>
    intro dv kV doc pm an cdv ct _ h2
    obtain ⟨T, oT, nn, rfl, h3, h4⟩ := h2 (by simp)
    rcases hu with rfl | ⟨rfl, rfl, rfl, rfl, rfl⟩
    · exact BindsTo.of_defaults rfl h3 h4 rfl rfl
    · rw [← l_nl]; exact BindsTo.of_defaults rfl h3 h4 rfl rfl
  intro h₁ k₁ L cdv A' Qf hA' hR F N
  repeat' wtm_at "ku"
  refine Br.f (decide_eq_false (by (first | lia | omega))) ?_
  repeat' wtm_at "ku"
  refine Br.mk' (fun e => ?_) (fun e => ?_)
  · have : l = [] := by simpa using e
    subst this
    repeat' wtm_at "ku"
    exact hR _ _ _ (hQ _ _ _ F.keep)
  have hne : l ≠ [] := by simpa using e
  have hn1 := G.nbmap
  obtain ⟨tcr, hcrlf⟩ := G.crlf
  rw [l_crlf] at hcrlf
  have hn2 := G.nquote
  repeat' wtm_at "ku"
  refine o_trans (G.bmap.keeps (Ext.trans (Ext.refl _) F.keep)) hl bm_len hne (by (first | lia | omega)) fun t1 k2 => ?_
  repeat' wtm_at "ku"
  rename_i D _ _ _ _ h2 k2' F2 N2
  refine k_append_val F2 N2 (by wtm_at "lk") (by rfl) (by rfl) (by decide) (fun q h5 k5 F5 N5 hqD _ => ?_)
  repeat' wtm_at "ku"
  refine k_for h ?_ ?_ ?_
  · rfl
  · rfl
  repeat' wtm_at "ku"
  have hlt := trans_lt hl
  have hlen := trans_len hl
  have hlb := trans_brk hl
  refine o_lines (by with_reducible assumption) (by with_reducible assumption) (by show (trans l).length ≤ _; (first | lia | omega)) (fun Ls ls h6 k6 els F6 N6 hLs hLsL hLsN => ?_)
  rw [show List.flatMap bm l = trans l from rfl, lines_eq _ hlb] at els
  obtain ⟨lines, hlines⟩ : ∃ y, y = splitL (trans l) [] := ⟨_, rfl⟩
  rw [← hlines] at els
  have hlsn : ls.length = lines.length := by simpa using congrArg List.length els
  have hlsn_ : (strValues ls).length = lines.length := by rw [← hlsn]; simp [strValues]
  obtain ⟨P, hP⟩ : ∃ y, y = lines.flatMap (encLine mm eol) := ⟨_, rfl⟩
  have hPn : P.length ≤ 1000 := by
    have h1 := pieces_count mm eol lines
    have h2 := splitL_weight (trans l) []
    rw [← hlines] at h2
    rw [← hP] at h1
    simp only [List.length_nil] at h2
    (first | lia | omega)
  refine for_list hA'.handled hLs hLsL hLsN F6 N6 (fun i vs nn => EncLk l eol mm q D vs ∧ EncJ P ((lines.drop i).flatMap (encLine mm eol)) [] q D nn) ?_ ?_ ?_
  · refine ⟨⟨⟨_, by wtm_at "lk"⟩, ⟨_, by wtm_at "lk"⟩, ⟨_, by wtm_at "lk"⟩, ⟨_, by wtm_at "lk"⟩, by wtm_at "lk", by wtm_at "lk", ⟨_, by wtm_at "lk"⟩⟩, [], 0, [], rfl, ?_, rfl⟩
    rw [List.nil_append, List.drop_zero]; exact hP
  · rintro i v vals₁ news₁ own h7 k7 hv ⟨hK, hJ⟩ ha hown F7 N7
    obtain ⟨ln, tl, hln, rfl⟩ := vals_at els hv
    have hi : i < lines.length := (List.getElem?_eq_some_iff.mp hln).1
    have hdr : lines.drop i = ln :: lines.drop (i + 1) := by
      rw [List.drop_eq_getElem_cons hi]; congr 1; exact (List.getElem?_eq_some_iff.mp hln).2
    obtain ⟨tail, htail⟩ : ∃ y, y = (lines.drop (i + 1)).flatMap (encLine mm eol) := ⟨_, rfl⟩
    rw [hdr, List.flatMap_cons, ← htail] at hJ
    have hmem : ln ∈ lines := List.mem_of_getElem? hln
    have hlnl : ln.length ≤ 1000 := by
      have := splitL_len (x := trans l) ln (hlines ▸ hmem); (first | lia | omega)
    have hlt2 : ∀ c ∈ ln, c < 256 := fun c hc => by
      rcases splitL_mem (hlines ▸ hmem) hc with h | h
      · exact hlt c h
      · simp at h
    have hKK := hK
    obtain ⟨⟨_, l1⟩, ⟨_, l2⟩, ⟨_, l3⟩, ⟨_, l4⟩, l5, l6, ⟨_, l7⟩⟩ := hKK
    have hkeys := hJ.keys
    have hownD : ∀ p ∈ own, p.1 ≠ D := fun p hp e => by
      have : D ∈ news₁.map (·.1) := by rw [hkeys]; simp
      obtain ⟨x, hx, e2⟩ := List.mem_map.mp this
      exact hown p hp x hx (e.trans e2.symm)
    have hJ' : EncJ P (encLine mm eol ln ++ tail) own q D (own ++ news₁) := by
      obtain ⟨xl, xc, xd, x1, x2, rfl⟩ := hJ
      exact ⟨xl, xc, xd, x1, x2, by simp⟩
    repeat' wtm_at "ku"
    refine' k_while (EncW l eol mm q D P tail own ln) ?F ?N ?J ?turn
    case F => with_reducible assumption
    case N => with_reducible assumption
    case J => exact ⟨hK.tl.tl.tl, ⟨_, by wtm_at "lk"⟩, ⟨_, by wtm_at "lk"⟩, 0, _, _, by wtm_at "lk", rfl, fun h => List.length_pos_iff.mpr h, fun _ => rfl, hJ', rfl⟩
    rintro n2 vals₂ nn₂ h8 k8 F8 N8 ha8 hJ8
    obtain ⟨hK8, ⟨_, l8⟩, ⟨_, l9⟩, st, si, _, l10, hsi, hst, hst0, hJ8, hn2⟩ := hJ8
    have hKK := hK8
    obtain ⟨⟨_, l1⟩, ⟨_, l2⟩, ⟨_, l3⟩, ⟨_, l4⟩, l5, l6, ⟨_, l7⟩⟩ := hKK
    repeat' wtm_at "ku"
    refine Br.mk' (fun c1 => ?_) (fun c1 => ?_)
    · subst hsi
      have hc1 : (st : Int) ≤ (ln.length : Int) - 1 - (mm : Int) := by simpa using c1
      have hlong : mm < (ln.drop st).length := by rw [List.length_drop]; (first | lia | omega)
      have hpc := encLine_long hm (eol := eol) hlong
      obtain ⟨ch, hch⟩ : ∃ x, ln[st + (mm - 3)]? = some x := ⟨_, List.getElem?_eq_getElem (by (first | lia | omega))⟩
      obtain ⟨ch2, hch2⟩ : ∃ x, ln[st + (mm - 2)]? = some x := ⟨_, List.getElem?_eq_getElem (by (first | lia | omega))⟩
      have hd1 : (ln.drop st).getD (mm - 3) 0 = ch := by rw [List.getD_eq_getElem?_getD, List.getElem?_drop, hch]; rfl
      have hd2 : (ln.drop st).getD (mm - 2) 0 = ch2 := by rw [List.getD_eq_getElem?_getD, List.getElem?_drop, hch2]; rfl
      rw [hd1, hd2] at hpc
      repeat' wtm_at "ku"
      refine o_item (st + (mm - 3)) (by (first | lia | omega)) hch (by (first | lia | omega)) (fun _ _ => ?_)
      repeat' wtm_at "ku"
      refine Br.mk' (fun c2 => ?_) (fun c2 => ?_)
      · have c3 : ch = 61 := by simpa using c2
        rw [if_pos c3] at hpc
        rw [hpc, List.cons_append] at hJ8
        repeat' wtm_at "ku"
        refine k_bound (l := D) ?_
        repeat' wtm_at "ku"
        refine o_slc (by with_reducible assumption) (by with_reducible assumption) (by (first | lia | omega)) ?_
        repeat' wtm_at "ku"
        refine ⟨_, _, _, rfl, by with_reducible assumption, by with_reducible assumption, .inl ⟨_, _, rfl, _, _, rfl, slice_at ln st (mm - 2) rfl (by (first | lia | omega))⟩, fun _ _ _ Fa Na => ?_⟩
        repeat' wtm_at "ku"
        refine ⟨_, _, rfl, hJ8.bound Na, e_piece Fa Na hJ8 hownD (Nat.ne_of_gt hqD) (by (first | lia | omega)) fun _ nn9 Fb Nb hJ9 hkeys9 => ⟨rfl, ?_⟩⟩
        repeat' wtm_at "ku"
        rename_i F9 N9
        refine te_next F9 N9 (hkeys9.trans ha8) ⟨_, ?_, hK8.tl.tl, ⟨_, by wtm_at "lk"⟩, ⟨_, by wtm_at "lk"⟩, st + (mm - 3), _, _, by wtm_at "lk", by (first | lia | omega), fun _ => by (first | lia | omega), fun e => (by rw [e] at hc1; simp at hc1; (first | lia | omega)), ?_, rfl⟩
        · (first | lia | omega)
        · rw [List.drop_drop] at hJ9; exact hJ9
      · have c3 : ch ≠ 61 := by simpa using c2
        rw [if_neg c3] at hpc
        repeat' wtm_at "ku"
        refine o_item (st + (mm - 2)) (by (first | lia | omega)) hch2 (by (first | lia | omega)) (fun _ _ => ?_)
        repeat' wtm_at "ku"
        refine Br.mk' (fun c4 => ?_) (fun c4 => ?_)
        · have c5 : ch2 = 61 := by simpa using c4
          rw [if_pos c5] at hpc
          rw [hpc, List.cons_append] at hJ8
          repeat' wtm_at "ku"
          refine k_bound (l := D) ?_
          repeat' wtm_at "ku"
          refine o_slc (by with_reducible assumption) (by with_reducible assumption) (by (first | lia | omega)) ?_
          repeat' wtm_at "ku"
          refine ⟨_, _, _, rfl, by with_reducible assumption, by with_reducible assumption, .inl ⟨_, _, rfl, _, _, rfl, slice_at ln st (mm - 1) rfl (by (first | lia | omega))⟩, fun _ _ _ Fa Na => ?_⟩
          repeat' wtm_at "ku"
          refine ⟨_, _, rfl, hJ8.bound Na, e_piece Fa Na hJ8 hownD (Nat.ne_of_gt hqD) (by (first | lia | omega)) fun _ nn9 Fb Nb hJ9 hkeys9 => ⟨rfl, ?_⟩⟩
          repeat' wtm_at "ku"
          rename_i F9 N9
          refine te_next F9 N9 (hkeys9.trans ha8) ⟨_, ?_, hK8.tl.tl, ⟨_, by wtm_at "lk"⟩, ⟨_, by wtm_at "lk"⟩, st + (mm - 2), _, _, by wtm_at "lk", by (first | lia | omega), fun _ => by (first | lia | omega), fun e => (by rw [e] at hc1; simp at hc1; (first | lia | omega)), ?_, rfl⟩
          · (first | lia | omega)
          · rw [List.drop_drop] at hJ9; exact hJ9
        · have c5 : ch2 ≠ 61 := by simpa using c4
          rw [if_neg c5] at hpc
          rw [hpc, List.cons_append] at hJ8
          repeat' wtm_at "ku"
          refine k_bound (l := D) ?_
          repeat' wtm_at "ku"
          refine o_slc (by with_reducible assumption) (by with_reducible assumption) (by (first | lia | omega)) ?_
          repeat' wtm_at "ku"
          refine ⟨_, _, _, rfl, by with_reducible assumption, by with_reducible assumption, .inl ⟨_, _, rfl, _, _, rfl, slice_at ln st (mm - 1) rfl (by (first | lia | omega))⟩, fun _ _ _ Fa Na => ?_⟩
          repeat' wtm_at "ku"
          refine o_cat (by rw [List.length_take, List.length_singleton]; (first | lia | omega)) (fun _ _ => ?_)
          repeat' wtm_at "ku"
          refine ⟨_, _, rfl, hJ8.bound Na, e_piece Fa Na hJ8 hownD (Nat.ne_of_gt hqD) (by (first | lia | omega)) fun _ nn9 Fb Nb hJ9 hkeys9 => ⟨rfl, ?_⟩⟩
          repeat' wtm_at "ku"
          rename_i F9 N9
          refine te_next F9 N9 (hkeys9.trans ha8) ⟨_, ?_, hK8.tl.tl, ⟨_, by wtm_at "lk"⟩, ⟨_, by wtm_at "lk"⟩, st + (mm - 1), _, _, by wtm_at "lk", by (first | lia | omega), fun _ => by (first | lia | omega), fun e => (by rw [e] at hc1; simp at hc1; (first | lia | omega)), ?_, rfl⟩
          · (first | lia | omega)
          · rw [List.drop_drop] at hJ9; exact hJ9
    · subst hsi
      have hc1 : ¬ (st : Int) ≤ (ln.length : Int) - 1 - (mm : Int) := by simpa using c1
      have hshort : ¬ mm < (ln.drop st).length := by
        rw [List.length_drop]
        by_cases e : ln = []
        · subst e; simp
        · have := hst e; (first | lia | omega)
      rw [encLine_short hshort, List.singleton_append] at hJ8
      repeat' wtm_at "ku"
      refine Br.mk' (fun c2 => ?_) (fun c2 => ?_)
      · have hne2 : ln ≠ [] := by simpa using c2
        have hstl := hst hne2
        obtain ⟨c, hc⟩ : ∃ c, ln.getLast? = some c := by
          cases e : ln.getLast? with
          | none => exact absurd (List.getLast?_eq_none_iff.mp e) hne2
          | some c => exact ⟨c, rfl⟩
        have hc256 : c < 256 := hlt2 c (List.mem_of_getLast? hc)
        have hfl : (ln.drop st).getLast? = some c := by rw [List.getLast?_drop, if_neg (by (first | lia | omega))]; exact hc
        have hfin := fin_some (m := mm) (eol := eol) hfl
        repeat' wtm_at "ku"
        refine o_last hc (fun _ _ => ?_)
        repeat' wtm_at "ku"
        refine Br.mk' (fun c3 => ?_) (fun c3 => ?_)
        · have c4 : c = 32 ∨ c = 9 := by simpa using c3
          rw [if_pos c4, List.length_drop] at hfin
          have hel : (esc c).length = 3 := rfl
          repeat' wtm_at "ku"
          refine Br.mk' (fun c5 => ?_) (fun c5 => ?_)
          · have c6 : (3 : Int) ≤ (st : Int) - ((ln.length : Int) - 1 - (mm : Int)) := by simpa using c5
            rw [if_pos (by (first | lia | omega))] at hfin
            rw [hfin] at hJ8
            repeat' wtm_at "ku"
            refine k_with_fn G.quote ?_
            repeat' wtm_at "ku"
            refine o_last hc (fun _ _ => ?_)
            repeat' wtm_at "ku"
            refine fn_here (by with_reducible assumption) (by with_reducible assumption) fun Fq Nq => c_quote (G.keeps Fq.keep) hA' hc256 fun _ h11 k11 x11 => ?_
            have F11 := x11.fr Fq
            have N11 := x11.news Nq
            repeat' wtm_at "ku"
            refine k_bound (l := D) ?_
            repeat' wtm_at "ku"
            refine o_slc (by with_reducible assumption) (by with_reducible assumption) (by (first | lia | omega)) ?_
            repeat' wtm_at "ku"
            refine ⟨_, _, _, rfl, by with_reducible assumption, by with_reducible assumption, .inl ⟨_, _, rfl, _, _, rfl, slice_neg1 ln st rfl hstl⟩, fun _ _ _ Fa Na => ?_⟩
            repeat' wtm_at "ku"
            refine o_cat (by rw [List.length_dropLast]; rw [hel, List.length_drop]; (first | lia | omega)) (fun _ _ => ?_)
            repeat' wtm_at "ku"
            refine ⟨_, _, rfl, hJ8.bound Na, e_piece Fa Na hJ8 hownD (Nat.ne_of_gt hqD) (by (first | lia | omega)) fun _ nn9 Fb Nb hJ9 hkeys9 => ⟨rfl, ?_⟩⟩
            repeat' wtm_at "ku"
            obtain ⟨xl, xc, xd, x1, x2, rfl⟩ := hJ9
            refine te_next (by with_reducible assumption) (news' := [(q, boundA D), (D, listOf (strValues xl).toArray xc)]) (by with_reducible assumption) rfl ⟨hK8.tl.tl, xl, xc, xd, x1, ?_, rfl⟩
            rw [x2, htail]
          · have c6 : ¬ (3 : Int) ≤ (st : Int) - ((ln.length : Int) - 1 - (mm : Int)) := by simpa using c5
            rw [if_neg (by (first | lia | omega))] at hfin
            repeat' wtm_at "ku"
            refine Br.mk' (fun c7 => ?_) (fun c7 => ?_)
            · have c8 : (st : Int) - ((ln.length : Int) - 1 - (mm : Int)) = 2 := by simpa using c7
              rw [if_pos (by (first | lia | omega))] at hfin
              rw [hfin] at hJ8
              repeat' wtm_at "ku"
              refine o_last hc (fun _ _ => ?_)
              repeat' wtm_at "ku"
              refine k_bound (l := D) ?_
              repeat' wtm_at "ku"
              refine o_slc (by with_reducible assumption) (by with_reducible assumption) (by (first | lia | omega)) ?_
              repeat' wtm_at "ku"
              refine ⟨_, _, _, rfl, by with_reducible assumption, by with_reducible assumption, .inl ⟨_, _, rfl, _, _, rfl, slice_neg1 ln st rfl hstl⟩, fun _ _ _ Fa Na => ?_⟩
              repeat' wtm_at "ku"
              refine o_cat (by rw [List.length_dropLast]; simp; (first | lia | omega)) (fun _ _ => ?_)
              repeat' wtm_at "ku"
              refine ⟨_, _, rfl, hJ8.bound Na, e_piece Fa Na hJ8 hownD (Nat.ne_of_gt hqD) (by (first | lia | omega)) fun _ nn9 Fb Nb hJ9 hkeys9 => ⟨rfl, ?_⟩⟩
              repeat' wtm_at "ku"
              obtain ⟨xl, xc, xd, x1, x2, rfl⟩ := hJ9
              refine te_next (by with_reducible assumption) (news' := [(q, boundA D), (D, listOf (strValues xl).toArray xc)]) (by with_reducible assumption) rfl ⟨hK8.tl.tl, xl, xc, xd, x1, ?_, rfl⟩
              rw [x2, htail]
            · have c8 : ¬ (st : Int) - ((ln.length : Int) - 1 - (mm : Int)) = 2 := by simpa using c7
              rw [if_neg (by (first | lia | omega))] at hfin
              rw [hfin] at hJ8
              repeat' wtm_at "ku"
              refine k_with_fn G.quote ?_
              repeat' wtm_at "ku"
              refine o_last hc (fun _ _ => ?_)
              repeat' wtm_at "ku"
              refine fn_here (by with_reducible assumption) (by with_reducible assumption) fun Fq Nq => c_quote (G.keeps Fq.keep) hA' hc256 fun _ h11 k11 x11 => ?_
              have F11 := x11.fr Fq
              have N11 := x11.news Nq
              repeat' wtm_at "ku"
              refine k_bound (l := D) ?_
              repeat' wtm_at "ku"
              refine o_slc (by with_reducible assumption) (by with_reducible assumption) (by (first | lia | omega)) ?_
              repeat' wtm_at "ku"
              refine ⟨_, _, _, rfl, by with_reducible assumption, by with_reducible assumption, .inl ⟨_, _, rfl, _, _, rfl, slice_neg1 ln st rfl hstl⟩, fun _ _ _ Fa Na => ?_⟩
              repeat' wtm_at "ku"
              refine o_cat (by rw [List.length_dropLast]; simp [hel]; (first | lia | omega)) (fun _ _ => ?_)
              repeat' wtm_at "ku"
              refine ⟨_, _, rfl, hJ8.bound Na, e_piece Fa Na hJ8 hownD (Nat.ne_of_gt hqD) (by (first | lia | omega)) fun _ nn9 Fb Nb hJ9 hkeys9 => ⟨rfl, ?_⟩⟩
              repeat' wtm_at "ku"
              obtain ⟨xl, xc, xd, x1, x2, rfl⟩ := hJ9
              refine te_next (by with_reducible assumption) (news' := [(q, boundA D), (D, listOf (strValues xl).toArray xc)]) (by with_reducible assumption) rfl ⟨hK8.tl.tl, xl, xc, xd, x1, ?_, rfl⟩
              rw [x2, htail]
        · have c4 : ¬ (c = 32 ∨ c = 9) := by simpa using c3
          rw [if_neg c4] at hfin
          rw [hfin] at hJ8
          repeat' wtm_at "ku"
          refine k_bound (l := D) ?_
          repeat' wtm_at "ku"
          refine o_slc (by with_reducible assumption) (by with_reducible assumption) (by (first | lia | omega)) ?_
          repeat' wtm_at "ku"
          refine ⟨_, _, _, rfl, by with_reducible assumption, by with_reducible assumption, .inr (.inl ⟨_, _, rfl, rfl, slice_fr ln st rfl⟩), fun _ _ _ Fa Na => ?_⟩
          repeat' wtm_at "ku"
          refine ⟨_, _, rfl, hJ8.bound Na, e_piece Fa Na hJ8 hownD (Nat.ne_of_gt hqD) (by (first | lia | omega)) fun _ nn9 Fb Nb hJ9 hkeys9 => ⟨rfl, ?_⟩⟩
          repeat' wtm_at "ku"
          obtain ⟨xl, xc, xd, x1, x2, rfl⟩ := hJ9
          refine te_next (by with_reducible assumption) (news' := [(q, boundA D), (D, listOf (strValues xl).toArray xc)]) (by with_reducible assumption) rfl ⟨hK8, xl, xc, xd, x1, ?_, rfl⟩
          rw [x2, htail]
      · have hne2 : ln = [] := by simpa using c2
        have hfin : fin mm eol (ln.drop st) = ln.drop st := by subst hne2; simp [fin]
        rw [hfin] at hJ8
        refine Br.f rfl ?_
        repeat' wtm_at "ku"
        refine k_bound (l := D) ?_
        repeat' wtm_at "ku"
        refine o_slc (by with_reducible assumption) (by with_reducible assumption) (by (first | lia | omega)) ?_
        repeat' wtm_at "ku"
        refine ⟨_, _, _, rfl, by with_reducible assumption, by with_reducible assumption, .inr (.inl ⟨_, _, rfl, rfl, slice_fr ln st rfl⟩), fun _ _ _ Fa Na => ?_⟩
        repeat' wtm_at "ku"
        refine ⟨_, _, rfl, hJ8.bound Na, e_piece Fa Na hJ8 hownD (Nat.ne_of_gt hqD) (by (first | lia | omega)) fun _ nn9 Fb Nb hJ9 hkeys9 => ⟨rfl, ?_⟩⟩
        repeat' wtm_at "ku"
        obtain ⟨xl, xc, xd, x1, x2, rfl⟩ := hJ9
        refine te_next (by with_reducible assumption) (news' := [(q, boundA D), (D, listOf (strValues xl).toArray xc)]) (by with_reducible assumption) rfl ⟨hK8, xl, xc, xd, x1, ?_, rfl⟩
        rw [x2, htail]
  · rintro h7 k7 vals₁ news₁ F7 N7 ha ⟨⟨⟨ue, he1⟩, _, _, _, hb, hap, ⟨ub, hbo⟩⟩, hJ⟩
    rw [hlsn_, List.drop_length, List.flatMap_nil] at hJ
    have hB : ∀ y ∈ P, y.length ≤ 1000 := fun y hy => by
      rw [hP] at hy
      have := pieces_len (B := 900) (fun x hx => by have := splitL_len (x := trans l) x (hlines ▸ hx); (first | lia | omega)) y hy
      (first | lia | omega)
    obtain ⟨c, hc⟩ : ∃ c, (trans l).getLast? = some c := by
      cases e : (trans l).getLast? with
      | none => exact absurd (List.getLast?_eq_none_iff.mp e) (trans_ne hl hne)
      | some c => exact ⟨c, rfl⟩
    have hbe : bodyEnc l mm eol = joinT eol (P ++ if endsBr (trans l) then [[]] else []) := by
      unfold bodyEnc; rw [if_neg hne, hP, hlines]
    repeat' wtm_at "ku"
    refine o_last hc (fun _ _ => ?_)
    repeat' wtm_at "ku"
    refine Br.mk' (fun c3 => ?_) (fun c3 => ?_)
    · have c4 : endsBr (trans l) = true := by
        have : c = 13 ∨ c = 10 := by simpa using c3
        unfold endsBr; rw [hc]; rcases this with rfl | rfl <;> rfl
      rw [c4, if_pos rfl] at hbe
      have hJ8 : EncJ (P ++ [[]]) ([] :: []) [] q D news₁ := by
        obtain ⟨xl, xc, xd, x1, x2, rfl⟩ := hJ
        exact ⟨xl, xc, xd, x1, by rw [x2]; simp, rfl⟩
      repeat' wtm_at "ku"
      refine k_bound (l := D) ?_
      repeat' wtm_at "ku"
      refine ⟨_, _, rfl, hJ8.bound (by with_reducible assumption), e_piece (by with_reducible assumption) (by with_reducible assumption) hJ8 (by simp) (Nat.ne_of_gt hqD) (by simp; (first | lia | omega)) fun _ nn9 Fb Nb hJ9 hkeys9 => ⟨rfl, ?_⟩⟩
      repeat' wtm_at "ku"
      refine e_join (by with_reducible assumption) hJ9 (by simp; (first | lia | omega)) ?_ he fun _ _ => ?_
      · intro y hy
        rcases List.mem_append.mp hy with hy | hy
        · exact hB y hy
        · rw [List.mem_singleton.mp hy]; simp
      rw [← hbe]
      exact hR _ _ _ (hQ _ _ _ (Fr.keep (by with_reducible assumption)))
    · have c4 : endsBr (trans l) = false := by
        have : ¬ (c = 13 ∨ c = 10) := by simpa using c3
        unfold endsBr; rw [hc]
        have h10 : c ≠ 10 := fun e => this (.inr e)
        have h13 : c ≠ 13 := fun e => this (.inl e)
        simp [h10, h13]
      rw [c4, if_neg (by decide), List.append_nil] at hbe
      repeat' wtm_at "ku"
      refine e_join (by with_reducible assumption) hJ (by (first | lia | omega)) hB he fun _ _ => ?_
      rw [← hbe]
      exact hR _ _ _ (hQ _ _ _ F7.keep)
end
end
section
section
variable {w : World} {A : Around} {E : Value → Shared → Prop} {s₀ : Shared} {h : Heap} {k : Nat} {d : Ad} {mg mb : Str → Option Value}
theorem hexV_lt {a : Nat} (h : isHex a = true) : hexV a < 16 := by
  have : ∀ x ∈ hexL, hexV x < 16 := by decide
  exact this a (isHex_mem h)
theorem c_unquote {n : Nat} {a b : Nat} {t : Tok} {Q : Value → Shared → Prop} (G : Glb d mg mb h) (hA : AOk A (n + 1)) (ha : isHex a = true) (hb : isHex b = true) (hQ : ∀ tk h' k', Ext h h' → Q (.str (mkS [hexV a * 16 + hexV b]) tk) (S s₀ h' k')) :
    wpAny (model prog w) A (call (.ref d.unquote) [.str (mkS [61, a, b]) t]) Q E (S s₀ h k) := by
  refine' k_enter (i := 14) [(Str.ofString "s", .str (mkS [61, a, b]) t)] G G.unquote hA ?hp ?hb ?hs ?hbind ?hcell ?hloc ?hco ?hgen ?hk ?_
  wtm_at "ku_lit"
  wtm_at "ku_bind0"
  intro h₁ k₁ L cdv A' Qf hA' hR F N
  repeat' wtm_at "ku"
  refine o_slc (by with_reducible assumption) (by with_reducible assumption) (by simp) ?_
  repeat' wtm_at "ku"
  refine ⟨_, _, _, rfl, by with_reducible assumption, by with_reducible assumption, .inl ⟨_, _, rfl, _, _, rfl, slice_at [61, a, b] 1 2 rfl rfl⟩, fun _ _ _ Fa Na => ?_⟩
  repeat' wtm_at "ku"
  refine o_int16 ha hb fun _ _ => ?_
  repeat' wtm_at "ku"
  have h1 := hexV_lt ha
  have h2 := hexV_lt hb
  refine o_chr (by (first | lia | omega)) fun _ _ => ?_
  exact hR _ _ _ (hQ _ _ _ Fa.keep)
end
end
section
section
variable {w : World} {A : Around} {E : Value → Shared → Prop} {s₀ : Shared} {h : Heap} {k : Nat} {d : Ad} {mg mb : Str → Option Value}
theorem o_snin {c : Nat} {l : T} {t u : Tok} {Q : Value → Shared → Prop} (hq : Q (.bool (!decide (c ∈ l))) (S s₀ h k)) : wpAny (model prog w) A (compareOp .NotIn (.str (mkS [c]) t) (.str (mkS l) u)) Q E (S s₀ h k) := by
  refine P.notIn_str ?_
  have e : (!(Builtin.Str.occurrences (mkS l) (mkS [c]) 0 (mkS l).length 1).isEmpty) = decide (c ∈ l) := StrLaws.found_one (mkS l) c
  rw [e]; exact hq
theorem t_and3 {x y z : PySem.Expr} {env : Env} {pos : Pos} {whole : Sem Value} {Q : Bool → Shared → Prop}
    (hq : wpAny (model prog w) A (isTrue x env (eval x env)) (fun c s' => Br c (wpAny (model prog w) A (isTrue y env (eval y env)) (fun c2 s2 => Br c2 (wpAny (model prog w) A (isTrue z env (eval z env)) Q E s2) (Q false s2)) E s') (Q false s')) E (S s₀ h k)) :
    wpAny (model prog w) A (isTrue (.BoolOp .And [x, y, z] pos) env whole) Q E (S s₀ h k) :=
  isTrue_and (wpAny_mono hq (fun c s x => by
    cases c
    · rw [if_neg (by decide)]; exact x.2 rfl
    · rw [if_pos rfl]; refine isTrue_and (wpAny_mono (x.1 rfl) (fun b s x => ?_) fun _ _ x => x)
      cases b
      · rw [if_neg (by decide)]; exact x.2 rfl
      · rw [if_pos rfl]; refine isTrue_and (wpAny_mono (x.1 rfl) (fun b s x => ?_) fun _ _ x => x)
        cases b
        · rw [if_neg (by decide)]; exact x
        · rw [if_pos rfl]; exact isTrue_and_nil x) fun _ _ x => x)
noncomputable def okC (c : Nat) : Bool := c == 9 || c == 10 || c == 13 || (decide (32 ≤ c) && decide (c ≤ 126))
theorem okC_lt {c : Nat} (h : okC c = true) : c < 127 := by simp [okC] at h; (first | lia | omega)
theorem okC_facts : ∀ c < 127, okC c = true → Unicode.isLineBreak c = brk c ∧ Unicode.isSpace c = isWs c := by decide +kernel
theorem hexd_mem (c : Nat) : decide (c ∈ ([48, 49, 50, 51, 52, 53, 54, 55, 56, 57, 97, 98, 99, 100, 101, 102, 65, 66, 67, 68, 69, 70] : T)) = isHex c := by
  rw [Bool.eq_iff_iff, decide_eq_true_eq]
  constructor
  · intro hc; have : ∀ x ∈ ([48, 49, 50, 51, 52, 53, 54, 55, 56, 57, 97, 98, 99, 100, 101, 102, 65, 66, 67, 68, 69, 70] : T), isHex x = true := by decide
    exact this c hc
  · intro hc; have : ∀ x ∈ hexL, x ∈ ([48, 49, 50, 51, 52, 53, 54, 55, 56, 57, 97, 98, 99, 100, 101, 102, 65, 66, 67, 68, 69, 70] : T) := by decide
    exact this c (isHex_mem hc)
theorem decR_nil (eol : T) : decR eol [] = eol := by rw [decR.eq_def]
theorem decR_plain {eol t : T} {c : Nat} (h : c ≠ 61) : decR eol (c :: t) = c :: decR eol t := by rw [decR.eq_def]; simp only; rw [if_neg h]
theorem decR_soft (eol : T) : decR eol [61] = [] := by rw [decR.eq_def]; rfl
theorem decR_hex {eol t : T} {a b : Nat} (ha : isHex a = true) (hb : isHex b = true) : decR eol (61 :: a :: b :: t) = (hexV a * 16 + hexV b) :: decR eol t := by
  rw [decR.eq_def]; simp only; rw [if_pos True.intro, ha, hb]; rfl
theorem decR_bare {eol t : T} (hne : t ≠ []) (hh : ∀ a b t', t = a :: b :: t' → (isHex a && isHex b) = false) : decR eol (61 :: t) = 61 :: decR eol t := by
  match t, hne, hh with
  | [a], _, _ => rw [decR.eq_def]; simp
  | a :: b :: t', _, hh => rw [decR.eq_def]; simp only; rw [if_pos True.intro, hh a b t' rfl]; rfl
theorem decR_len (eol : T) : ∀ (n : Nat) (l : T), l.length ≤ n → (decR eol l).length ≤ l.length + eol.length
  | _, [], _ => by simp [decR]
  | 0, c :: t, h => by simp at h
  | n + 1, c :: t, h => by
    rw [decR.eq_def]
    simp only
    split
    · split
      · simp
      · rename_i a
        have := decR_len eol n [a] (by simp at h ⊢; (first | lia | omega))
        simp at this ⊢; (first | lia | omega)
      · rename_i a b t'
        split
        · have := decR_len eol n t' (by simp at h ⊢; (first | lia | omega))
          simp at this ⊢; (first | lia | omega)
        · have := decR_len eol n (a :: b :: t') (by simp at h ⊢; (first | lia | omega))
          simp at this ⊢; (first | lia | omega)
    · have := decR_len eol n t (by simpa using h)
      simp at this ⊢; (first | lia | omega)
theorem rstripT_len (l : T) : (rstripT l).length ≤ l.length := by
  unfold rstripT
  rw [List.length_reverse]
  have := (List.dropWhile_sublist isWs (l := l.reverse)).length_le
  simpa using this
theorem flat_len {f : T → T} {n : Nat} (hf : ∀ y, (f y).length ≤ y.length + n) : ∀ ls : List T, (ls.flatMap f).length ≤ (ls.map (fun y => y.length + 1)).sum * (n + 1)
  | [] => by simp
  | x :: r => by
    have h1 := hf x
    have h2 := flat_len hf r
    simp only [List.flatMap_cons, List.length_append, List.map_cons, List.sum_cons]
    have : (x.length + 1 + (r.map (fun y => y.length + 1)).sum) * (n + 1) = (x.length + 1) * (n + 1) + (r.map (fun y => y.length + 1)).sum * (n + 1) := Nat.add_mul _ _ _
    have h3 : x.length + n ≤ (x.length + 1) * (n + 1) := by
      have : (x.length + 1) * (n + 1) = x.length * n + x.length + n + 1 := by rw [Nat.add_mul, Nat.mul_add]; (first | lia | omega)
      (first | lia | omega)
    (first | lia | omega)
noncomputable def DecLk (e eol : T) (vs : List (Str × Value)) : Prop :=
  (∃ u, look vs (Str.ofString "encoded") = some (.str (mkS e) u)) ∧ (∃ u, look vs (Str.ofString "eol") = some (.str (mkS eol) u))
theorem DecLk.tl {e eol : T} {vs : List (Str × Value)} {x : Str} {v : Value} (H : DecLk e eol vs) (hx : ∀ y ∈ [Str.ofString "encoded", Str.ofString "eol"], y ≠ x := by decide) : DecLk e eol ((x, v) :: vs) := by
  obtain ⟨⟨_, a⟩, ⟨_, b⟩⟩ := H
  exact ⟨⟨_, look_tl (hx _ (by simp)) a⟩, ⟨_, look_tl (hx _ (by simp)) b⟩⟩
/-- within a line: what is decoded, what is left -/
noncomputable def DecW (e eol Tt tail ln : T) (n : Nat) (vs : List (Str × Value)) (nn : List (Addr × Obj)) (own : List (Addr × Obj)) : Prop :=
  DecLk e eol vs ∧ (∃ u, look vs (Str.ofString "line") = some (.str (mkS ln) u)) ∧ (∃ u, look vs (Str.ofString "n") = some (.int (ln.length : Nat) u)) ∧
  ∃ (i : Nat) (ii : Int) (dec : T) (u u' : Tok), look vs (Str.ofString "i") = some (.int ii u) ∧ ii = (i : Int) ∧ look vs (Str.ofString "decoded") = some (.str (mkS dec) u') ∧
    ((i < ln.length ∧ Tt = dec ++ (decR eol (ln.drop i) ++ tail)) ∨ (i = ln.length ∧ Tt = dec ++ tail)) ∧ n = ln.length - i ∧ nn = own
theorem te_nextW {h₀ : Heap} {L : Addr} {adr : List Addr} {J : List (Str × Value) → List (Addr × Obj) → Prop} {Q : Flow → Shared → Prop} {news' : List (Addr × Obj)} {h' : Heap} {k' : Nat} {vals' : List (Str × Value)}
    (F : Fr h₀ L h' (look vals')) (N : News h₀ L h' news') (ha : news'.map (·.1) = adr) (hJ : J vals' news') : TurnEnd s₀ h₀ L adr [] J Q .next (S s₀ h' k') := te_next F N ha hJ
theorem te_contW {h₀ : Heap} {L : Addr} {adr : List Addr} {J : List (Str × Value) → List (Addr × Obj) → Prop} {Q : Flow → Shared → Prop} {news' : List (Addr × Obj)} {h' : Heap} {k' : Nat} {vals' : List (Str × Value)}
    (F : Fr h₀ L h' (look vals')) (N : News h₀ L h' news') (ha : news'.map (·.1) = adr) (hJ : J vals' news') : TurnEnd s₀ h₀ L adr [] J Q .cont (S s₀ h' k') := te_cont F N ha hJ
theorem c_decG {n : Nat} {e eol : T} {t : Tok} {args : List Value} {Q : Value → Shared → Prop} (G : Glb d mg mb h) (hA : AOk A (n + 2)) (hargs : (∃ u, args = [.str (mkS e) t, .str (mkS eol) u]) ∨ (args = [.str (mkS e) t] ∧ eol = [10]))
    (hl : ∀ c ∈ e, okC c = true) (hsz : e.length ≤ 1500) (he : eol.length ≤ 2) (he0 : 1 ≤ eol.length)
    (hQ : ∀ tk h' k', Ext h h' → Q (.str (mkS (decS e eol)) tk) (S s₀ h' k')) :
    wpAny (model prog w) A (call (.ref d.dec) args) Q E (S s₀ h k) := by
  obtain ⟨du, hD⟩ := G.dec
  obtain ⟨u, hu⟩ : ∃ u', (args = [.str (mkS e) t, .str (mkS eol) u']) ∨ (args = [.str (mkS e) t] ∧ eol = [10] ∧ u' = du) := by
    rcases hargs with ⟨u, q⟩ | ⟨q1, q2⟩
    · exact ⟨u, .inl q⟩
    · exact ⟨du, .inr ⟨q1, q2, rfl⟩⟩
  refine' k_enter (n := n + 1) (i := 20) [(Str.ofString "encoded", .str (mkS e) t), (Str.ofString "eol", .str (mkS eol) u)] G hD hA ?hp ?hb ?hs ?hbind ?hcell ?hloc ?hco ?hgen ?hk ?_
  wtm_at "ku_lit"
  case hbind =>
    intro dv kV doc pm an cdv ct _ h2
    obtain ⟨T, oT, nn, rfl, h3, h4⟩ := h2 (by simp)
    rcases hu with rfl | ⟨rfl, rfl, rfl⟩
    · exact BindsTo.of_defaults rfl h3 h4 rfl rfl
    · rw [← l_nl]; exact BindsTo.of_defaults rfl h3 h4 rfl rfl
  intro h₁ k₁ L cdv A' Qf hA' hR F N
  have hn1 := G.nunquote
  obtain ⟨tcr, hhex⟩ := G.hexd
  rw [l_hexd] at hhex
  repeat' wtm_at "ku"
  refine Br.mk' (fun e1 => ?_) (fun e1 => ?_)
  · have : e = [] := by simpa using e1
    subst this
    repeat' wtm_at "ku"
    exact hR _ _ _ (hQ _ _ _ F.keep)
  have hne : e ≠ [] := by simpa using e1
  repeat' wtm_at "ku"
  refine k_for h ?_ ?_ ?_
  · rfl
  · rfl
  repeat' wtm_at "ku"
  refine o_lines (by with_reducible assumption) (by with_reducible assumption) (by (first | lia | omega)) (fun Ls ls h6 k6 els F6 N6 hLs hLsL hLsN => ?_)
  rw [lines_eq _ fun c hc => (okC_facts c (okC_lt (hl c hc)) (hl c hc)).1] at els
  obtain ⟨lines, hlines⟩ : ∃ y, y = splitL e [] := ⟨_, rfl⟩
  rw [← hlines] at els
  have hlsn : ls.length = lines.length := by simpa using congrArg List.length els
  have hlsn_ : (strValues ls).length = lines.length := by rw [← hlsn]; simp [strValues]
  obtain ⟨Tt, hTt⟩ : ∃ y, y = lines.flatMap (fun l => decR eol (rstripT l)) := ⟨_, rfl⟩
  have hTn : Tt.length ≤ 4600 := by
    have h1 := flat_len (f := fun l => decR eol (rstripT l)) (n := eol.length) (fun y => by
      have h1 := decR_len eol _ (rstripT y) (Nat.le_refl _)
      have h2 := rstripT_len y
      show (decR eol (rstripT y)).length ≤ _
      (first | lia | omega)) lines
    rw [← hTt] at h1
    have h2 := splitL_weight e []
    rw [← hlines] at h2
    simp only [List.length_nil] at h2
    have h3 : (lines.map (fun y => y.length + 1)).sum * (eol.length + 1) ≤ 1501 * 3 := Nat.mul_le_mul (by (first | lia | omega)) (by (first | lia | omega))
    (first | lia | omega)
  refine for_list hA'.handled hLs hLsL hLsN F6 N6 (fun i vs nn => DecLk e eol vs ∧ (∃ dec u, look vs (Str.ofString "decoded") = some (.str (mkS dec) u) ∧ Tt = dec ++ (lines.drop i).flatMap (fun l => decR eol (rstripT l))) ∧ nn = []) ?_ ?_ ?_
  · exact ⟨⟨⟨_, by wtm_at "lk"⟩, ⟨_, by wtm_at "lk"⟩⟩, ⟨[], _, by wtm_at "lk", by rw [List.nil_append, List.drop_zero]; exact hTt⟩, rfl⟩
  · rintro i v vals₁ news₁ own h7 k7 hv ⟨hK, ⟨dec, _, l0, hJ⟩, rfl⟩ ha hown F7 N7
    obtain ⟨ln0, tl, hln, rfl⟩ := vals_at els hv
    have hi : i < lines.length := (List.getElem?_eq_some_iff.mp hln).1
    have hdr : lines.drop i = ln0 :: lines.drop (i + 1) := by
      rw [List.drop_eq_getElem_cons hi]; congr 1; exact (List.getElem?_eq_some_iff.mp hln).2
    obtain ⟨tail, htail⟩ : ∃ y, y = (lines.drop (i + 1)).flatMap (fun l => decR eol (rstripT l)) := ⟨_, rfl⟩
    rw [hdr, List.flatMap_cons, ← htail] at hJ
    have hmem : ln0 ∈ lines := List.mem_of_getElem? hln
    have hlnl : ln0.length ≤ 1500 := by
      have := splitL_len (x := e) ln0 (hlines ▸ hmem); (first | lia | omega)
    have hok : ∀ c ∈ ln0, okC c = true := fun c hc => by
      rcases splitL_mem (hlines ▸ hmem) hc with h | h
      · exact hl c h
      · simp at h
    obtain ⟨ln, hlnd⟩ : ∃ y, y = rstripT ln0 := ⟨_, rfl⟩
    rw [← hlnd] at hJ
    have hlnn : ln.length ≤ 1500 := by have := rstripT_len ln0; rw [← hlnd] at this; (first | lia | omega)
    obtain ⟨⟨_, l1⟩, ⟨_, l2⟩⟩ := id hK
    have hTd : Tt.length = dec.length + ((decR eol ln).length + tail.length) := by rw [hJ]; simp
    repeat' wtm_at "ku"
    refine o_rstrip (fun c hc => (okC_facts c (okC_lt (hok c hc)) (hok c hc)).2) (by (first | lia | omega)) fun _ _ => ?_
    rw [← hlnd]
    repeat' wtm_at "ku"
    refine Br.mk' (fun c1 => ?_) (fun c1 => ?_)
    · have h0 : ln = [] := by simpa using c1
      subst h0
      have hdec0 : decR eol [] = eol := decR_nil eol
      rw [hdec0] at hJ hTd
      repeat' wtm_at "ku"
      refine te_cont (by with_reducible assumption) (news' := []) (by with_reducible assumption) rfl ⟨hK.tl.tl.tl, ⟨dec ++ eol, _, by wtm_at "lk", by rw [hJ, htail]; simp⟩, rfl⟩
    have hnl : ln ≠ [] := by simpa using c1
    repeat' wtm_at "ku"
    refine' k_while (fun n vs nn => DecW e eol Tt tail ln n vs nn (own ++ [])) ?F ?N ?J ?turn
    case F => with_reducible assumption
    case N => with_reducible assumption
    case J => exact ⟨hK.tl.tl.tl.tl, ⟨_, by wtm_at "lk"⟩, ⟨_, by wtm_at "lk"⟩, 0, _, dec, _, _, by wtm_at "lk", rfl, by wtm_at "lk", .inl ⟨List.length_pos_iff.mpr hnl, by rw [List.drop_zero]; exact hJ⟩, rfl, rfl⟩
    rintro n2 vals₂ nn₂ h8 k8 F8 N8 ha8 ⟨hK8, ⟨_, l3⟩, ⟨_, l4⟩, i2, ii, dec2, _, _, l5, rfl, l6, hJ8, hn2, rfl⟩
    obtain ⟨⟨_, l1⟩, ⟨_, l2⟩⟩ := id hK8
    repeat' wtm_at "ku"
    refine Br.mk' (fun c2 => ?_) (fun c2 => ?_)
    · have c3 : i2 < ln.length := by simpa using c2
      have hJ9 : Tt = dec2 ++ (decR eol (ln.drop i2) ++ tail) := by
        rcases hJ8 with h | h
        · exact h.2
        · (first | lia | omega)
      have hTd2 : Tt.length = dec2.length + ((decR eol (ln.drop i2)).length + tail.length) := by rw [hJ9]; simp
      obtain ⟨ch, hch⟩ : ∃ x, ln[i2]? = some x := ⟨_, List.getElem?_eq_getElem (by (first | lia | omega))⟩
      have hdr2 : ln.drop i2 = ch :: ln.drop (i2 + 1) := by
        rw [List.drop_eq_getElem_cons c3]; congr 1; exact (List.getElem?_eq_some_iff.mp hch).2
      repeat' wtm_at "ku"
      refine o_item i2 rfl hch (by (first | lia | omega)) (fun _ _ => ?_)
      repeat' wtm_at "ku"
      refine Br.mk' (fun c4 => ?_) (fun c4 => ?_)
      · have c5 : ch ≠ 61 := by simpa using c4
        have hJn : Tt = (dec2 ++ [ch]) ++ (decR eol (ln.drop (i2 + 1)) ++ tail) := by rw [hJ9, hdr2, decR_plain c5]; simp
        repeat' wtm_at "ku"
        refine Br.mk' (fun d1 => ?_) (fun d1 => ?_)
        · have d2 : (i2 : Int) + 1 = (ln.length : Int) := by simpa using d1
          have d3 : Tt = (dec2 ++ [ch] ++ eol) ++ tail := by rw [hJn, List.drop_of_length_le (by (first | lia | omega)), decR_nil]; simp
          repeat' wtm_at "ku"
          exact te_nextW (by with_reducible assumption) (news' := own ++ []) (by with_reducible assumption) ha8 ⟨_, by (first | lia | omega), hK8.tl.tl.tl.tl, ⟨_, by wtm_at "lk"⟩, ⟨_, by wtm_at "lk"⟩, i2 + 1, _, _, _, _, by wtm_at "lk", by (first | lia | omega), by wtm_at "lk", .inr ⟨by (first | lia | omega), d3⟩, rfl, rfl⟩
        · have d2 : ¬ (i2 : Int) + 1 = (ln.length : Int) := by simpa using d1
          repeat' wtm_at "ku"
          exact te_nextW (by with_reducible assumption) (news' := own ++ []) (by with_reducible assumption) ha8 ⟨_, by (first | lia | omega), hK8.tl.tl.tl, ⟨_, by wtm_at "lk"⟩, ⟨_, by wtm_at "lk"⟩, i2 + 1, _, _, _, _, by wtm_at "lk", by (first | lia | omega), by wtm_at "lk", .inl ⟨by (first | lia | omega), hJn⟩, rfl, rfl⟩
      · have c5 : ch = 61 := by simpa using c4
        subst c5
        repeat' wtm_at "ku"
        refine Br.mk' (fun c6 => ?_) (fun c6 => ?_)
        · have c7 : (i2 : Int) + 1 = (ln.length : Int) := by simpa using c6
          have hJn : Tt = dec2 ++ tail := by rw [hJ9, hdr2, List.drop_of_length_le (by (first | lia | omega)), decR_soft, List.nil_append]
          repeat' wtm_at "ku"
          exact te_contW (by with_reducible assumption) (news' := own ++ []) (by with_reducible assumption) ha8 ⟨_, by (first | lia | omega), hK8.tl.tl, ⟨_, by wtm_at "lk"⟩, ⟨_, by wtm_at "lk"⟩, i2 + 1, _, _, _, _, by wtm_at "lk", by (first | lia | omega), by wtm_at "lk", .inr ⟨by (first | lia | omega), hJn⟩, rfl, rfl⟩
        have c7 : ¬ (i2 : Int) + 1 = (ln.length : Int) := by simpa using c6
        repeat' wtm_at "ku"
        refine t_cut (decide (i2 + 2 < ln.length) && (isHex (ln.getD (i2 + 1) 0) && isHex (ln.getD (i2 + 2) 0))) ?_ fun k' => ?_
        · refine t_and3 ?_
          repeat' wtm_at "ku"
          refine Br.mk' (fun c8 => ?_) (fun c8 => ?_)
          · have c9 : i2 + 2 < ln.length := by have : (i2 : Int) + 2 < (ln.length : Int) := by simpa using c8
                                               (first | lia | omega)
            obtain ⟨a, ha1⟩ : ∃ x, ln[i2 + 1]? = some x := ⟨_, List.getElem?_eq_getElem (by (first | lia | omega))⟩
            obtain ⟨b, hb1⟩ : ∃ x, ln[i2 + 2]? = some x := ⟨_, List.getElem?_eq_getElem (by (first | lia | omega))⟩
            have ha2 : ln.getD (i2 + 1) 0 = a := by rw [List.getD_eq_getElem?_getD, ha1]; rfl
            have hb2 : ln.getD (i2 + 2) 0 = b := by rw [List.getD_eq_getElem?_getD, hb1]; rfl
            repeat' wtm_at "ku"
            refine o_item (i2 + 1) (by (first | lia | omega)) ha1 (by (first | lia | omega)) (fun _ _ => ?_)
            repeat' wtm_at "ku"
            rw [hexd_mem]
            refine Br.mk' (fun d1 => ?_) (fun d1 => ?_)
            · repeat' wtm_at "ku"
              refine o_item (i2 + 2) (by (first | lia | omega)) hb1 (by (first | lia | omega)) (fun _ _ => ?_)
              repeat' wtm_at "ku"
              rw [hexd_mem]
              exact ⟨by rw [ha2, hb2, d1, decide_eq_true c9]; rfl, _, rfl⟩
            · exact ⟨by rw [ha2, d1, Bool.false_and, Bool.and_false], _, rfl⟩
          · have c9 : ¬ i2 + 2 < ln.length := by have : ¬ (i2 : Int) + 2 < (ln.length : Int) := by simpa using c8
                                                 (first | lia | omega)
            exact ⟨by rw [decide_eq_false c9, Bool.false_and], _, rfl⟩
        refine Br.mk' (fun c8 => ?_) (fun c8 => ?_)
        · have c9 : i2 + 2 < ln.length := by simp at c8; exact c8.1
          obtain ⟨a, ha1⟩ : ∃ x, ln[i2 + 1]? = some x := ⟨_, List.getElem?_eq_getElem (by (first | lia | omega))⟩
          obtain ⟨b, hb1⟩ : ∃ x, ln[i2 + 2]? = some x := ⟨_, List.getElem?_eq_getElem (by (first | lia | omega))⟩
          have ha2 : ln.getD (i2 + 1) 0 = a := by rw [List.getD_eq_getElem?_getD, ha1]; rfl
          have hb2 : ln.getD (i2 + 2) 0 = b := by rw [List.getD_eq_getElem?_getD, hb1]; rfl
          rw [ha2, hb2, decide_eq_true c9, Bool.true_and, Bool.and_eq_true] at c8
          have hdr3 : ln.drop (i2 + 1) = a :: b :: ln.drop (i2 + 3) := by
            rw [List.drop_eq_getElem_cons (by (first | lia | omega)), List.drop_eq_getElem_cons (by (first | lia | omega))]
            congr 1
            · exact (List.getElem?_eq_some_iff.mp ha1).2
            · congr 1; exact (List.getElem?_eq_some_iff.mp hb1).2
          have htk : (ln.drop i2).take 3 = [61, a, b] := by rw [hdr2, hdr3]; rfl
          have hJn : Tt = (dec2 ++ [hexV a * 16 + hexV b]) ++ (decR eol (ln.drop (i2 + 3)) ++ tail) := by rw [hJ9, hdr2, hdr3, decR_hex c8.1 c8.2]; simp
          repeat' wtm_at "ku"
          refine k_with_fn G.unquote ?_
          repeat' wtm_at "ku"
          refine o_slc (by with_reducible assumption) (by with_reducible assumption) (by (first | lia | omega)) ?_
          repeat' wtm_at "ku"
          refine ⟨_, _, _, rfl, by with_reducible assumption, by with_reducible assumption, .inl ⟨_, _, rfl, _, _, rfl, slice_at ln i2 3 rfl rfl⟩, fun _ _ _ Fa Na => ?_⟩
          rw [htk]
          repeat' wtm_at "ku"
          refine fn_here Fa Na fun Fq Nq => c_unquote (G.keeps Fq.keep) hA' c8.1 c8.2 fun _ h11 k11 x11 => ?_
          have F11 := x11.fr Fq
          have N11 := x11.news Nq
          repeat' wtm_at "ku"
          refine Br.mk' (fun d1 => ?_) (fun d1 => ?_)
          · have d2 : (i2 : Int) + 3 = (ln.length : Int) := by simpa using d1
            have d3 : Tt = (dec2 ++ [hexV a * 16 + hexV b] ++ eol) ++ tail := by rw [hJn, List.drop_of_length_le (by (first | lia | omega)), decR_nil]; simp
            repeat' wtm_at "ku"
            exact te_nextW (by with_reducible assumption) (news' := own ++ []) (by with_reducible assumption) ha8 ⟨_, by (first | lia | omega), hK8.tl.tl.tl.tl, ⟨_, by wtm_at "lk"⟩, ⟨_, by wtm_at "lk"⟩, i2 + 3, _, _, _, _, by wtm_at "lk", by (first | lia | omega), by wtm_at "lk", .inr ⟨by (first | lia | omega), d3⟩, rfl, rfl⟩
          · have d2 : ¬ (i2 : Int) + 3 = (ln.length : Int) := by simpa using d1
            repeat' wtm_at "ku"
            exact te_nextW (by with_reducible assumption) (news' := own ++ []) (by with_reducible assumption) ha8 ⟨_, by (first | lia | omega), hK8.tl.tl.tl, ⟨_, by wtm_at "lk"⟩, ⟨_, by wtm_at "lk"⟩, i2 + 3, _, _, _, _, by wtm_at "lk", by (first | lia | omega), by wtm_at "lk", .inl ⟨by (first | lia | omega), hJn⟩, rfl, rfl⟩
        · have hJn : Tt = (dec2 ++ [61]) ++ (decR eol (ln.drop (i2 + 1)) ++ tail) := by
            rw [hJ9, hdr2, decR_bare (by rw [Ne, List.drop_eq_nil_iff]; (first | lia | omega)) ?_]
            · simp
            · intro a b t' hr
              have h1 : ln.getD (i2 + 1) 0 = a := by
                rw [List.getD_eq_getElem?_getD, show ln[i2 + 1]? = (ln.drop (i2 + 1))[0]? from (by simp [List.getElem?_drop]), hr]; rfl
              have h2 : ln.getD (i2 + 2) 0 = b := by
                rw [List.getD_eq_getElem?_getD, show ln[i2 + 2]? = (ln.drop (i2 + 1))[1]? from (by rw [List.getElem?_drop]), hr]; try rfl
              have h3 : i2 + 2 < ln.length := by have := congrArg List.length hr; simp at this; (first | lia | omega)
              rw [h1, h2, decide_eq_true h3, Bool.true_and] at c8
              exact c8
          repeat' wtm_at "ku"
          refine Br.mk' (fun d1 => ?_) (fun d1 => ?_)
          · have d2 : (i2 : Int) + 1 = (ln.length : Int) := by simpa using d1
            have d3 : Tt = (dec2 ++ [61] ++ eol) ++ tail := by rw [hJn, List.drop_of_length_le (by (first | lia | omega)), decR_nil]; simp
            repeat' wtm_at "ku"
            exact te_nextW (by with_reducible assumption) (news' := own ++ []) (by with_reducible assumption) ha8 ⟨_, by (first | lia | omega), hK8.tl.tl.tl.tl, ⟨_, by wtm_at "lk"⟩, ⟨_, by wtm_at "lk"⟩, i2 + 1, _, _, _, _, by wtm_at "lk", by (first | lia | omega), by wtm_at "lk", .inr ⟨by (first | lia | omega), d3⟩, rfl, rfl⟩
          · have d2 : ¬ (i2 : Int) + 1 = (ln.length : Int) := by simpa using d1
            repeat' wtm_at "ku"
            exact te_nextW (by with_reducible assumption) (news' := own ++ []) (by with_reducible assumption) ha8 ⟨_, by (first | lia | omega), hK8.tl.tl.tl, ⟨_, by wtm_at "lk"⟩, ⟨_, by wtm_at "lk"⟩, i2 + 1, _, _, _, _, by wtm_at "lk", by (first | lia | omega), by wtm_at "lk", .inl ⟨by (first | lia | omega), hJn⟩, rfl, rfl⟩
    · have c3 : ¬ i2 < ln.length := by simpa using c2
      have hJ9 : Tt = dec2 ++ tail := by
        rcases hJ8 with h | h
        · (first | lia | omega)
        · exact h.2
      repeat' wtm_at "ku"
      refine te_next F8 (news' := []) N8 rfl ⟨hK8, ⟨dec2, _, l6, by rw [hJ9, htail]⟩, rfl⟩
  · rintro h7 k7 vals₁ news₁ F7 N7 ha ⟨hK, ⟨dec, _, l0, hJ⟩, rfl⟩
    rw [hlsn_, List.drop_length, List.flatMap_nil, List.append_nil] at hJ
    subst hJ
    obtain ⟨⟨_, l1⟩, ⟨_, l2⟩⟩ := id hK
    obtain ⟨c, hc⟩ : ∃ c, e.getLast? = some c := by
      cases e9 : e.getLast? with
      | none => exact absurd (List.getLast?_eq_none_iff.mp e9) hne
      | some c => exact ⟨c, rfl⟩
    have hds : decS e eol = if !endsBr e && endsW Tt eol then Tt.take (Tt.length - eol.length) else Tt := by
      unfold decS; rw [if_neg hne, hTt, hlines]
    have hdec : (!decide (c ∈ ([13, 10] : T))) = !endsBr e := by
      unfold endsBr; rw [hc]
      have : (some c == some 10 || some c == some 13) = decide (c ∈ ([13, 10] : T)) := by
        rw [Bool.eq_iff_iff]; simp; (first | lia | omega)
      rw [this]
    refine k_next (k_cons (k_if (t_cut (!endsBr e && endsW Tt eol) ?_ fun k' => ?_)))
    · refine t_and ?_
      repeat' wtm_at "ku"
      refine o_last hc (fun _ _ => ?_)
      repeat' wtm_at "ku"
      refine o_snin ?_
      rw [hdec]
      repeat' wtm_at "ku"
      refine Br.mk' (fun c3 => ?_) (fun c3 => ?_)
      · repeat' wtm_at "ku"
        refine o_endswith ?_
        repeat' wtm_at "ku"
        exact ⟨by rw [c3, Bool.true_and], _, rfl⟩
      · exact ⟨by rw [c3, Bool.false_and], _, rfl⟩
    refine Br.mk' (fun c3 => ?_) (fun c3 => ?_)
    · rw [c3, if_pos rfl] at hds
      have c4 : eol.length ≤ Tt.length := by simp [endsW] at c3; exact c3.2.2
      repeat' wtm_at "ku"
      refine o_slc (by with_reducible assumption) (by with_reducible assumption) (by (first | lia | omega)) ?_
      repeat' wtm_at "ku"
      refine ⟨_, _, _, rfl, by with_reducible assumption, by with_reducible assumption, .inr (.inr ⟨rfl, _, _, rfl, slice_to_neg Tt eol.length (by (first | lia | omega)) c4⟩), fun _ _ _ Fa Na => ?_⟩
      repeat' wtm_at "ku"
      rw [← hds]
      exact hR _ _ _ (hQ _ _ _ (Fr.keep (by with_reducible assumption)))
    · rw [c3, if_neg (by decide)] at hds
      repeat' wtm_at "ku"
      rw [← hds]
      exact hR _ _ _ (hQ _ _ _ F7.keep)
end
end
section
open PySem PySem.W PyProof.Rows PySem.Calls
theorem wd_get : Slot "wrapper_descriptor" "__get__" "wrapper_descriptor.__get__" :=
  .of (owner := "wrapper_descriptor") (n := "__get__") (by rw [typeLookup_type, builtinLookup_eq_fast]; kernel_rfl) (by decide +kernel) (by decide +kernel) (by decide +kernel)
    (by first | exact .inl (by decide +kernel) | exact .inr (by decide +kernel)) (by rw [isSubtype_type]; kernel_rfl)
theorem wd_entry : entryFor table "wrapper_descriptor.__get__" = some Builtin.«wrapper_descriptor.__get__» := entryFor_of_tree (by kernel_rfl)
theorem wd_args (a b c : Value) : argsOk "wrapper_descriptor.__get__" ⟨[a, b, c], []⟩ := by unfold argsOk; kernel_rfl
theorem wd_noset : typeLookup (.type "wrapper_descriptor") "__set__" = pure none := by rw [typeLookup_type, builtinLookup_eq_fast]; kernel_rfl
theorem wd_nodel : typeLookup (.type "wrapper_descriptor") "__delete__" = pure none := by rw [typeLookup_type, builtinLookup_eq_fast]; kernel_rfl
theorem gi_type : typeOf (.builtin "str.__getitem__") = pure (.type "wrapper_descriptor") := by show builtinType _ = _; rw [builtinType_eq_fast]; kernel_rfl
theorem gi_lookup : typeLookup (.type "str") "__getitem__" = pure (some (.builtin "str.__getitem__")) := by rw [typeLookup_type, builtinLookup_eq_fast]; kernel_rfl
theorem gi_owner : (".".intercalate ("str.__getitem__".cutAt '.').dropLast) = "str" := by
  have e0 : "str.__getitem__".cutAt '.' = ["str", "__getitem__"] := by first | rfl | decide +kernel
  rw [e0]; decide +kernel
theorem ss_sub : isSubtype (.type "str") (.type "str") = pure true := by rw [isSubtype_type]; kernel_rfl
theorem ha_kind : builtinKind "hasattr" = none := by decide +kernel
theorem ha_plain : plainId "hasattr" = true := by decide +kernel
theorem ha_entry : entryFor table "hasattr" = some Builtin.«hasattr» := entryFor_of_fast (by kernel_rfl)
theorem ha_args (a b : Value) : argsOk "hasattr" ⟨[a, b], []⟩ := by unfold argsOk; kernel_rfl
theorem gi_ending : (withoutEnding? "str.__getitem__" "#data") = none := by first | rfl | decide +kernel
section
variable {pg : Program} {w : World} {A : Around} {E : Value → Shared → Prop} {h : Heap} {g : Array GenState} {d : Drawn} {t : Nat} {os : OsState} {x : Str} {u : Tok}
noncomputable def wrapA (x : Str) (u : Tok) : Obj := { cls := .type "method-wrapper", data := .fields #[.builtin "str.__getitem__", .str x u] }
set_option maxHeartbeats 2000000 in
theorem wd_run {Q : Fin → Shared → Prop} (hq : Q (.done (.ret (.ref h.objs.size))) ⟨h.push (wrapA x u), g, d, t, os⟩) :
    wpAny (model pg w) A (Builtin.«wrapper_descriptor.__get__» ⟨[.builtin "str.__getitem__", .str x u, .type "str"], []⟩) Q E ⟨h, g, d, t, os⟩ := by
  have hT : (⟨h, g, d, t, os⟩ : Shared).TypeIs (.str x u) "str" := rfl
  have f2 : isSubtype (.type "str") (.type (".".intercalate ("str.__getitem__".cutAt '.').dropLast)) = pure true := by rw [gi_owner]; exact ss_sub
  unfold Builtin.«wrapper_descriptor.__get__»
  (with_reducible refine PySem.wpAny_bind ?_); wp_delta; ((with_reducible apply PySem.wpAny_ite_false); focus (rfl; done)); (with_reducible refine PySem.wpAny_bind ?_); (with_reducible refine PySem.wpAny_pure ?_); ((with_reducible apply PySem.wpAny_ite_false); focus (rfl; done)); (with_reducible refine PySem.wpAny_pure ?_); wp_delta; wp_delta; (with_reducible refine PySem.wpAny_bind ?_); wp_delta; (with_reducible refine PySem.wpAny_bind ?_); wp_delta; (with_reducible refine PySem.wpAny_pure ?_); (with_reducible refine PySem.wpAny_bind ?_); (with_reducible refine PySem.wpAny_isInstance (by assumption) (by assumption) ?_); ((with_reducible apply PySem.wpAny_ite_false); focus (rfl; done)); (with_reducible refine PySem.wpAny_pure ?_); (with_reducible refine PySem.wpAny_bind ?_); wp_delta; wp_delta; ((with_reducible apply PySem.wpAny_ite_false); focus (rfl; done)); wp_delta; wp_delta; (with_reducible refine PySem.wpAny_bind ?_); (with_reducible refine PySem.wpAny_alloc' ?_); (with_reducible refine PySem.wpAny_pure ?_); wp_delta; (with_reducible refine PySem.wpAny_pure ?_); assumption
set_option maxHeartbeats 2000000 in
theorem gs_run {Q : Fin → Shared → Prop} {tk : Tok} (hq : Q (.done (.ret (.ref h.objs.size))) ⟨h.push (wrapA x u), g, d, t, os⟩) :
    wpAny (model pg w) A (Builtin.«object.__getattribute__» ⟨[.str x u, .str "__getitem__" tk], []⟩) Q E ⟨h, g, d, t, os⟩ := by
  have hT : (⟨h, g, d, t, os⟩ : Shared).TypeIs (.str x u) "str" := rfl
  have hT5 : (⟨h, g, d, t, os⟩ : Shared).TypeIs (.builtin "str.__getitem__") "wrapper_descriptor" := gi_type
  have f1 := gi_lookup
  have f2 := gi_type
  have f3 := wd_get.lookup
  have f4 := wd_noset
  have f5 := wd_nodel
  unfold Builtin.«object.__getattribute__»
  (with_reducible refine PySem.wpAny_bind ?_); wp_delta; ((with_reducible apply PySem.wpAny_ite_false); focus (rfl; done)); ((with_reducible apply PySem.wpAny_ite_false); focus (rfl; done)); (with_reducible refine PySem.wpAny_pure ?_); (with_reducible refine PySem.wpAny_bind ?_); wp_delta; (with_reducible refine PySem.wpAny_pure ?_); (with_reducible refine PySem.wpAny_bind ?_); (with_reducible refine PySem.wpAny_typeOf (by assumption) ?_); (with_reducible refine PySem.wpAny_bind ?_); wp_delta; (with_reducible refine PySem.wpAny_bind ?_); (with_reducible refine PySem.wpAny_of_eq (by assumption) ?_); (with_reducible refine PySem.wpAny_bind ?_); wp_delta; (with_reducible refine PySem.wpAny_specialOf_val (by assumption) (by assumption) ?_); (with_reducible refine PySem.wpAny_bind ?_); wp_delta; (with_reducible refine PySem.wpAny_bind ?_); wp_delta; (with_reducible refine PySem.wpAny_bind ?_); (with_reducible refine PySem.wpAny_specialOf_val (by assumption) (by assumption) ?_); ((with_reducible apply PySem.wpAny_ite_false); focus (rfl; done)); (with_reducible refine PySem.wpAny_bind ?_); (with_reducible refine PySem.wpAny_specialOf_val (by assumption) (by assumption) ?_); (with_reducible refine PySem.wpAny_pure ?_); ((with_reducible apply PySem.wpAny_ite_false); focus (rfl; done)); (with_reducible refine PySem.wpAny_pure ?_); wp_delta; wp_delta; (with_reducible refine PySem.wpAny_bind ?_); wp_delta; (with_reducible refine PySem.wpAny_pure ?_); (with_reducible refine PySem.wpAny_bind ?_); wp_delta; (with_reducible refine PySem.wpAny_pure ?_); wp_delta; (with_reducible refine PySem.wpAny_bind ?_); (with_reducible refine PySem.wpAny_rule ?_); (with_reducible refine PySem.wpAny_pure ?_); wp_delta; wp_delta; (with_reducible refine PySem.wpAny_bind ?_); (with_reducible refine PySem.wpAny_holding ?_); (with_reducible refine PySem.wpAny_call ?_)
  refine codeAny_call_builtin wd_get.plain wd_entry (wd_get.check _ _ _ _ _ _ _ _ hT5 (wd_args _ _ _) ?_)
  refine wd_run ?_
  exact wpAny_pure hq
theorem gb_call {R : Result → Shared → Prop} {tk : Tok} (hq : R (.ok (.ret (.ref h.objs.size))) ⟨h.push (wrapA x u), g, d, t, os⟩) :
    codeAny (model pg w) A (.call (.builtin "object.__getattribute__") ⟨[.str x u, .str "__getitem__" tk], []⟩) R ⟨h, g, d, t, os⟩ :=
  codeAny_call_builtin F.slot_str_getattribute.plain F.entry_object_getattribute (F.slot_str_getattribute.check _ _ _ _ _ _ _ _ (show (⟨h, g, d, t, os⟩ : Shared).TypeIs (.str x u) "str" from rfl) (F.args_object_getattribute_2 _ _) (gs_run hq))
set_option maxHeartbeats 2000000 in
theorem gb_run {tk : Tok} {Q : Value → Shared → Prop} (hq : Q (.ref h.objs.size) ⟨h.push (wrapA x u), g, d, t, os⟩) : wpAny (model pg w) A (getAttrBy (.str x u) (.str "__getitem__" tk) false) Q E ⟨h, g, d, t, os⟩ := by
  have hT : (⟨h, g, d, t, os⟩ : Shared).TypeIs (.str x u) "str" := rfl
  have f2 := F.slot_str_getattribute.lookup
  have f3 := F.slot_str_getattribute.bind (.str x u)
  wp_delta; (with_reducible refine PySem.wpAny_holding ?_); (with_reducible refine PySem.wpAny_bind ?_); (with_reducible refine PySem.wpAny_typeOf (by assumption) ?_); (with_reducible refine PySem.wpAny_bind ?_); (with_reducible refine PySem.wpAny_of_eq (by assumption) ?_); ((with_reducible apply PySem.wpAny_ite_false); focus (rfl; done)); wp_delta; (with_reducible refine PySem.wpAny_bind ?_); wp_delta; ((with_reducible apply PySem.wpAny_ite_false); focus (rfl; done)); (with_reducible refine PySem.wpAny_pure ?_); (with_reducible refine PySem.wpAny_bind ?_); (with_reducible refine PySem.wpAny_attempt ?_); (with_reducible refine PySem.wpAny_holding ?_); wp_delta; ((with_reducible apply PySem.wpAny_ite_false); focus (rfl; done)); wp_delta; (with_reducible refine PySem.wpAny_bind ?_); (with_reducible refine PySem.wpAny_of_eq (by assumption) ?_); (with_reducible refine PySem.wpAny_call ?_)
  refine gb_call ?_
  wp_delta; wp_delta; (with_reducible refine PySem.wpAny_pure ?_); assumption
set_option maxHeartbeats 2000000 in
theorem ha_run {tk : Tok} {Q : Fin → Shared → Prop} (hq : Q (.done (.ret (.bool true))) ⟨h.push (wrapA x u), g, d, t, os⟩) : wpAny (model pg w) A (Builtin.«hasattr» ⟨[.str x u, .str "__getitem__" tk], []⟩) Q E ⟨h, g, d, t, os⟩ := by
  have hT : (⟨h, g, d, t, os⟩ : Shared).TypeIs (.str x u) "str" := rfl
  have f1 := gi_lookup
  have f2 := F.slot_str_getattribute.lookup
  have f3 := gi_ending
  unfold Builtin.«hasattr» getAttrBy?
  (with_reducible refine PySem.wpAny_bind ?_); wp_delta; (with_reducible refine PySem.wpAny_bind ?_); wp_delta; ((with_reducible apply PySem.wpAny_ite_true); focus (rfl; done)); (with_reducible refine PySem.wpAny_pure ?_); (with_reducible refine PySem.wpAny_bind ?_); wp_delta; ((with_reducible apply PySem.wpAny_ite_false); focus (rfl; done)); ((with_reducible apply PySem.wpAny_ite_false); focus (rfl; done)); ((with_reducible apply PySem.wpAny_ite_false); focus (rfl; done)); (with_reducible refine PySem.wpAny_pure ?_); (with_reducible refine PySem.wpAny_pure ?_); (with_reducible refine PySem.wpAny_bind ?_); wp_delta; (with_reducible refine PySem.wpAny_bind ?_); wp_delta; (with_reducible refine PySem.wpAny_pure ?_); ((with_reducible apply PySem.wpAny_ite_false); focus (rfl; done)); (with_reducible refine PySem.wpAny_pure ?_); ((with_reducible apply PySem.wpAny_ite_false); focus (rfl; done)); (with_reducible refine PySem.wpAny_bind ?_); (with_reducible refine PySem.wpAny_typeOf (by assumption) ?_); (with_reducible refine PySem.wpAny_bind ?_); wp_delta; (with_reducible refine PySem.wpAny_pure ?_); (with_reducible refine PySem.wpAny_bind ?_); (with_reducible refine PySem.wpAny_of_eq (by assumption) ?_); (with_reducible refine PySem.wpAny_bind ?_); (with_reducible refine PySem.wpAny_of_eq (by assumption) ?_); ((with_reducible apply PySem.wpAny_ite_false); focus (rfl; done)); (with_reducible refine PySem.wpAny_bind ?_); wp_delta; (with_reducible refine PySem.wpAny_pure ?_); ((with_reducible apply PySem.wpAny_ite_false); focus (rfl; done)); (with_reducible refine PySem.wpAny_bind ?_); (with_reducible refine PySem.wpAny_bind ?_); (with_reducible refine PySem.wpAny_attempt ?_); ((with_reducible refine gb_run ?_)); (with_reducible refine PySem.wpAny_pure ?_); ((with_reducible apply PySem.wpAny_ite_false); focus (rfl; done)); wp_delta; wp_delta; (with_reducible refine PySem.wpAny_pure ?_); assumption
end
section
variable {pg : Program} {w : World} {A : Around} {E : Value → Shared → Prop} {s₀ : Shared} {h h₀ : Heap} {k : Nat} {L : Addr} {m : Str → Option Value} {news : List (Addr × Obj)} {x : Str} {t u : Tok}
theorem o_hasattr {Q : Value → Shared → Prop} (F : Fr h₀ L h m) (N : News h₀ L h news) (hq : ∀ h' k', Fr h₀ L h' m → News h₀ L h' news → Q (.bool true) (S s₀ h' k')) :
    wpAny (model pg w) A (call (.builtin "hasattr") [.str x t, .str (Str.ofString "__getitem__") u]) Q E (S s₀ h k) := by
  refine call_function_entry ha_kind ha_plain ha_entry (ha_args _ _) ?_
  unfold S
  refine ha_run ?_
  exact ⟨_, rfl, hq _ _ (F.push _) (fun p hp => ⟨Heap.get?_push_of_some _ (N p hp).1, (N p hp).2⟩)⟩
end
end
section
section
variable {w : World} {A : Around} {E : Value → Shared → Prop} {s₀ : Shared} {h : Heap} {k : Nat} {d : Ad} {mg mb : Str → Option Value}
theorem c_concat {n : Nat} {x y : T} {t u : Tok} {Q : Value → Shared → Prop} (G : Glb d mg mb h) (hA : AOk A (n + 1)) (hsz : x.length + y.length ≤ 10000) (hQ : ∀ tk h' k', Ext h h' → Q (.str (mkS (x ++ y)) tk) (S s₀ h' k')) :
    wpAny (model prog w) A (call (.ref d.concat) [.str (mkS x) t, .str (mkS y) u]) Q E (S s₀ h k) := by
  refine' k_enter (i := 25) [(Str.ofString "a", .str (mkS x) t), (Str.ofString "b", .str (mkS y) u)] G G.concat hA ?hp ?hb ?hs ?hbind ?hcell ?hloc ?hco ?hgen ?hk ?_
  wtm_at "ku_lit"
  wtm_at "ku_bind0"
  intro h₁ k₁ L cdv A' Qf hA' hR F N
  repeat' wtm_at "ku"
  rw [← l_getitem]
  refine o_hasattr (by with_reducible assumption) (by with_reducible assumption) fun _ _ _ _ => ?_
  repeat' wtm_at "ku"
  refine Br.f rfl ?_
  repeat' wtm_at "ku"
  exact hR _ _ _ (hQ _ _ _ (Fr.keep (by with_reducible assumption)))
end
end
section
section
variable {w : World} {A : Around} {E : Value → Shared → Prop} {s₀ : Shared} {h : Heap} {k : Nat} {d : Ad} {mg mb : Str → Option Value}
theorem c_hint {n : Nat} {x : T} {t : Tok} {Q : Value → Shared → Prop} (G : Glb d mg mb h) (hA : AOk A (n + 1)) (hsz : x.length ≤ 10000) (hQ : ∀ tk h' k', Ext h h' → Q (.int (x.length : Nat) tk) (S s₀ h' k')) :
    wpAny (model prog w) A (call (.ref d.hint) [.str (mkS x) t]) Q E (S s₀ h k) := by
  obtain ⟨du, hD⟩ := G.hint
  refine' k_enter (i := 28) [(Str.ofString "obj", .str (mkS x) t), (Str.ofString "default", .int 0 du)] G hD hA ?hp ?hb ?hs ?hbind ?hcell ?hloc ?hco ?hgen ?hk ?_
  wtm_at "ku_lit"
  case hbind =>
    intro dv kV doc pm an cdv ct _ h2
    obtain ⟨T, oT, nn, rfl, h3, h4⟩ := h2 (by simp)
    exact BindsTo.of_defaults rfl h3 h4 rfl rfl
  intro h₁ k₁ L cdv A' Qf hA' hR F N
  repeat' wtm_at "ku"
  refine IsiPair.int_int ?_
  repeat' wtm_at "ku"
  refine Br.f rfl ?_
  repeat' wtm_at "ku"
  refine wpAny_Try_except ?_
  repeat' wtm_at "ku"
  exact hR _ _ _ (hQ _ _ _ F.keep)
end
end
section
section
variable {w : World} {A : Around} {E : Value → Shared → Prop} {s₀ : Shared} {h : Heap} {k : Nat} {d : Ad} {mg mb : Str → Option Value}
theorem foldl_flat (n : Nat) (l : T) : ∀ acc : Array Nat, (List.replicate n l.toArray).foldl (· ++ ·) acc = acc ++ ((List.replicate n l).flatten).toArray := by
  induction n with
  | zero => intro acc; simp
  | succ n ih => intro acc; rw [List.replicate_succ, List.foldl_cons, ih, List.replicate_succ, List.flatten_cons]; simp
theorem flat_rep_len (n : Nat) (l : T) : ((List.replicate n l).flatten).length = n * l.length := by simp
theorem o_smul {n : Nat} {i : Int} {l : T} {t u : Tok} {Q : Value → Shared → Prop} (hi : i = (n : Int)) (hsz : l.length * n ≤ 100000) (hn : n ≤ 100000) (hl : l.length ≤ 100000) (hq : ∀ t k', Q (.str (mkS ((List.replicate n l).flatten)) t) (S s₀ h k')) :
    wpAny (model prog w) A (binaryOp .Mult (.str (mkS l) t) (.int i u)) Q E (S s₀ h k) := by
  subst hi
  refine P.mul_str (s := S s₀ h k) ?_ ?_ ?_ ?_
  · rw [decide_eq_false (by (first | lia | omega)), decide_eq_false (by (first | lia | omega))]; rfl
  · intro h1 _
    rw [mkS_len]
    have h2 : 1 ≤ n := by (first | lia | omega)
    have h3 : (2 ^ 63 - 1 : Int) / (n : Int) ≥ (2 ^ 63 - 1 : Int) / 100000 := by
      have h4 : ((2 ^ 63 - 1 : Int) / 100000) * (n : Int) ≤ 2 ^ 63 - 1 := by
        have : ((2 ^ 63 - 1 : Int) / 100000) * (n : Int) ≤ ((2 ^ 63 - 1 : Int) / 100000) * 100000 := Int.mul_le_mul_of_nonneg_left (by (first | lia | omega)) (by decide)
        exact Int.le_trans this (by decide)
      exact (Int.le_ediv_iff_mul_le (by (first | lia | omega))).mpr h4
    have h5 : (2 ^ 63 - 1 : Int) / 100000 = 92233720368547 := by decide
    (first | lia | omega)
  · intro _ _
    rw [mkS_len]
    show Builtin.Str.tooLong (l.length * n) = false
    unfold Builtin.Str.tooLong sizeLine; exact decide_eq_false (by (first | lia | omega))
  · split
    · have : n = 0 := by (first | lia | omega)
      subst this
      refine ⟨by decide, ?_⟩
      have := hq (S s₀ h k).toks ((S s₀ h k).toks + 1)
      exact this
    · split
      · rename_i h1 h2
        rw [Bool.or_eq_true] at h2
        have e : (List.replicate n l).flatten = l := by
          rcases h2 with h2 | h2
          · have : n = 1 := by have : (n : Int) = 1 := by simpa using h2
                               (first | lia | omega)
            subst this; simp
          · rw [mkS_len] at h2
            have : l = [] := by simpa using h2
            subst this; simp
        rw [e] at hq
        exact hq _ _
      · have e : (⟨(List.replicate (n : Int).toNat (mkS l).cps).foldl (· ++ ·) #[]⟩ : Str) = mkS ((List.replicate n l).flatten) := by
          show (⟨(List.replicate (n : Int).toNat l.toArray).foldl (· ++ ·) #[]⟩ : Str) = _
          rw [Int.toNat_natCast, foldl_flat]; simp [mkS]
        rw [e]
        refine ⟨?_, hq _ _⟩
        rw [mkS_len, flat_rep_len, Nat.mul_comm]; unfold sizeLine; (first | lia | omega)
theorem o_max {a b : Int} {t u : Tok} {h₀ : Heap} {L : Addr} {m : Str → Option Value} {news : List (Addr × Obj)} {Q : Value → Shared → Prop} (hh : A.handled = none) (F : Fr h₀ L h m) (N : News h₀ L h news)
    (hq : ∀ t h' k', Fr h₀ L h' m → News h₀ L h' news → Q (.int (if b > a then b else a) t) (S s₀ h' k')) : wpAny (model prog w) A (call (.builtin "max") [.int a t, .int b u]) Q E (S s₀ h k) :=
  max_two_N (s := S s₀ h k) hh F N fun h' tk F' N' => hq _ h' tk F' N'
theorem flat_one (n c : Nat) : (List.replicate n [c]).flatten = List.replicate n c := by
  induction n with
  | zero => rfl
  | succ n ih => rw [List.replicate_succ, List.flatten_cons, ih, List.replicate_succ]; rfl
theorem o_smul1 {n c : Nat} {i : Int} {t u : Tok} {Q : Value → Shared → Prop} (hi : i = (n : Int)) (hn : n ≤ 100000) (hq : ∀ t k', Q (.str (mkS (List.replicate n c)) t) (S s₀ h k')) :
    wpAny (model prog w) A (binaryOp .Mult (.str (mkS [c]) t) (.int i u)) Q E (S s₀ h k) := by
  refine o_smul hi (by simpa using hn) hn (by simp) fun t k' => ?_
  rw [flat_one]; exact hq t k'
theorem note_breaks {count m : Nat} (hm : 4 ≤ m) : (if ((count : Int) - 1) / ((m : Int) - 1) > 0 then ((count : Int) - 1) / ((m : Int) - 1) else 0) = (((count - 1) / (m - 1) : Nat) : Int) := by
  have e : ((m : Int) - 1) = ((m - 1 : Nat) : Int) := by (first | lia | omega)
  rw [e]
  by_cases hc : count = 0
  · subst hc
    have : ((0 : Nat) : Int) - 1 = -1 := by (first | lia | omega)
    rw [this]
    have h1 : (-1 : Int) / ((m - 1 : Nat) : Int) < 0 := Int.ediv_neg_of_neg_of_pos (by (first | lia | omega)) (by (first | lia | omega))
    rw [if_neg (by (first | lia | omega))]
    simp
  · have e2 : ((count : Int) - 1) = ((count - 1 : Nat) : Int) := by (first | lia | omega)
    have e3 : ((count - 1 : Nat) : Int) / ((m - 1 : Nat) : Int) = (((count - 1) / (m - 1) : Nat) : Int) := (Int.natCast_ediv _ _).symm
    rw [e2, e3]
    split
    · rfl
    · rename_i h9
      exact Int.le_antisymm (Int.natCast_nonneg _) (Int.not_lt.mp h9)
theorem v_cut {tr : Sem Value} {Q : Value → Shared → Prop} (l : T) (h1 : wpAny (model prog w) A tr (fun v s' => ∃ t k', v = .str (mkS l) t ∧ s' = S s₀ h k') E (S s₀ h k)) (h2 : ∀ t k', Q (.str (mkS l) t) (S s₀ h k')) : wpAny (model prog w) A tr Q E (S s₀ h k) :=
  k_cut _ h1 fun v s' x => by obtain ⟨t, k', rfl, rfl⟩ := x; exact h2 t k'
theorem c_note {n count last m : Nat} {eol : T} {t u v x : Tok} {Q : Value → Shared → Prop} (G : Glb d mg mb h) (hA : AOk A (n + 1)) (hm : 4 ≤ m) (hm2 : m ≤ 100) (hc : count ≤ 100) (he : eol.length ≤ 2)
    (hQ : ∀ tk h' k', Ext h h' → Q (.str (mkS (noteS count last m eol)) tk) (S s₀ h' k')) :
    wpAny (model prog w) A (call (.ref d.note) [.int (count : Int) t, .str (mkS [last]) u, .int (m : Int) v, .str (mkS eol) x]) Q E (S s₀ h k) := by
  refine' k_enter (i := 31) [(Str.ofString "count", .int (count : Int) t), (Str.ofString "last", .str (mkS [last]) u), (Str.ofString "room", .int (m : Int) v), (Str.ofString "end", .str (mkS eol) x)] G G.note hA ?hp ?hb ?hs ?hbind ?hcell ?hloc ?hco ?hgen ?hk ?_
  wtm_at "ku_lit"
  wtm_at "ku_bind0"
  intro h₁ k₁ L cdv A' Qf hA' hR F N
  repeat' wtm_at "ku"
  refine o_max hA'.handled (by with_reducible assumption) (by with_reducible assumption) fun _ _ _ _ _ => ?_
  rw [note_breaks hm]
  obtain ⟨B, hB⟩ : ∃ y, y = (count - 1) / (m - 1) := ⟨_, rfl⟩
  rw [← hB]
  have hB1 : B * (m - 1) ≤ count := by
    have := Nat.div_mul_le_self (count - 1) (m - 1)
    rw [hB]; (first | lia | omega)
  have hB2 : B ≤ count := by
    have : B * 1 ≤ B * (m - 1) := Nat.mul_le_mul_left _ (by (first | lia | omega))
    (first | lia | omega)
  have hB3 : (m - 1 + 1 + eol.length) * B ≤ 400 := by
    have e1 : (m - 1 + 1 + eol.length) * B = B * (m - 1) + B * (1 + eol.length) := by
      rw [Nat.mul_comm, ← Nat.mul_add, Nat.add_assoc]
    have e2 : B * (1 + eol.length) ≤ 100 * 3 := Nat.mul_le_mul (by (first | lia | omega)) (by (first | lia | omega))
    (first | lia | omega)
  obtain ⟨left, hleft⟩ : ∃ y, y = count - B * (m - 1) := ⟨_, rfl⟩
  have hll : (count : Int) - (B : Int) * ((m : Int) - 1) = (left : Int) := by
    have e1 : (B : Int) * ((m : Int) - 1) = ((B * (m - 1) : Nat) : Int) := by
      rw [Int.natCast_mul]; congr 1; (first | lia | omega)
    rw [e1]; (first | lia | omega)
  have hl2 : left ≤ 100 := by (first | lia | omega)
  have hns : noteS count last m eol = if last = 46 then ((List.replicate B (List.replicate (m - 1) 110 ++ 61 :: eol)).flatten ++ List.replicate left 110) ++ [46] else
      if left + 2 < m then ((List.replicate B (List.replicate (m - 1) 110 ++ 61 :: eol)).flatten ++ List.replicate left 110) ++ (if last = 32 then [61, 50, 48] else [61, 48, 57])
      else if left + 2 = m then ((List.replicate B (List.replicate (m - 1) 110 ++ 61 :: eol)).flatten ++ List.replicate left 110) ++ last :: 61 :: eol
      else ((List.replicate B (List.replicate (m - 1) 110 ++ 61 :: eol)).flatten ++ List.replicate left 110) ++ (61 :: eol) ++ (if last = 32 then [61, 50, 48] else [61, 48, 57]) := by
    rw [hleft, hB]; rfl
  obtain ⟨row, hrow⟩ : ∃ y, y = (List.replicate B (List.replicate (m - 1) 110 ++ 61 :: eol)).flatten ++ List.replicate left 110 := ⟨_, rfl⟩
  rw [← hrow] at hns
  have hrl : row.length ≤ 500 := by
    rw [hrow, List.length_append, flat_rep_len, List.length_replicate, List.length_append, List.length_replicate, List.length_cons]
    have : B * (m - 1 + (eol.length + 1)) = (m - 1 + 1 + eol.length) * B := by rw [Nat.mul_comm]; congr 1; (first | lia | omega)
    (first | lia | omega)
  repeat' wtm_at "ku"
  refine o_smul1 (n := m - 1) (by (first | lia | omega)) (by (first | lia | omega)) fun _ _ => ?_
  repeat' wtm_at "ku"
  refine o_smul (n := B) rfl (by simp only [List.length_append, List.length_cons, List.length_nil, List.length_replicate, Nat.zero_add]; (first | lia | omega)) (by (first | lia | omega)) (by simp only [List.length_append, List.length_cons, List.length_nil, List.length_replicate, Nat.zero_add]; (first | lia | omega)) fun _ _ => ?_
  repeat' wtm_at "ku"
  refine o_smul1 (n := left) hll (by (first | lia | omega)) fun _ _ => ?_
  repeat' wtm_at "ku"
  refine o_cat (by rw [flat_rep_len, Nat.mul_comm]; simp only [List.length_append, List.length_cons, List.length_nil, List.length_replicate, Nat.zero_add]; (first | lia | omega)) fun _ _ => ?_
  have hr2 : (List.replicate B (List.replicate (m - 1) 110 ++ [61] ++ eol)).flatten ++ List.replicate left 110 = row := by rw [hrow]; simp
  rw [hr2]
  repeat' wtm_at "ku"
  refine Br.mk' (fun c1 => ?_) (fun c1 => ?_)
  · have c2 : last = 46 := by simpa using c1
    subst c2
    rw [if_pos rfl] at hns
    repeat' wtm_at "ku"
    rw [← hns]
    exact hR _ _ _ (hQ _ _ _ (Fr.keep (by with_reducible assumption)))
  have c2 : last ≠ 46 := by simpa using c1
  rw [if_neg c2] at hns
  obtain ⟨cd, hcd⟩ : ∃ y, y = (if last = 32 then ([61, 50, 48] : T) else [61, 48, 57]) := ⟨_, rfl⟩
  rw [← hcd] at hns
  have hcl : cd.length = 3 := by rw [hcd]; split <;> rfl
  refine k_nil (k_next (k_cons ?_))
  refine k_assign ?_
  refine v_cut cd ?_ fun _ _ => ?_
  · repeat' wtm_at "ku"
    refine Br.mk' (fun c3 => ?_) (fun c3 => ?_)
    · have c4 : last = 32 := by simpa using c3
      rw [if_pos c4] at hcd
      repeat' wtm_at "ku"
      exact ⟨_, _, by rw [hcd], rfl⟩
    · have c4 : last ≠ 32 := by simpa using c3
      rw [if_neg c4] at hcd
      repeat' wtm_at "ku"
      exact ⟨_, _, by rw [hcd], rfl⟩
  repeat' wtm_at "ku"
  refine Br.mk' (fun c3 => ?_) (fun c3 => ?_)
  · have c4 : (left : Int) < (m : Int) - 2 := by rw [hll] at c3; simpa using c3
    rw [if_pos (by (first | lia | omega))] at hns
    repeat' wtm_at "ku"
    rw [← hns]
    exact hR _ _ _ (hQ _ _ _ (Fr.keep (by with_reducible assumption)))
  have c4 : ¬ (left : Int) < (m : Int) - 2 := by rw [hll] at c3; simpa using c3
  rw [if_neg (by (first | lia | omega))] at hns
  repeat' wtm_at "ku"
  refine Br.mk' (fun c5 => ?_) (fun c5 => ?_)
  · have c6 : (left : Int) = (m : Int) - 2 := by rw [hll] at c5; simpa using c5
    rw [if_pos (by (first | lia | omega))] at hns
    repeat' wtm_at "ku"
    rw [show row ++ [last] ++ [61] ++ eol = row ++ last :: 61 :: eol by simp, ← hns]
    exact hR _ _ _ (hQ _ _ _ (Fr.keep (by with_reducible assumption)))
  · have c6 : ¬ (left : Int) = (m : Int) - 2 := by rw [hll] at c5; simpa using c5
    rw [if_neg (by (first | lia | omega))] at hns
    repeat' wtm_at "ku"
    rw [show row ++ [61] ++ eol ++ cd = row ++ 61 :: eol ++ cd by simp, ← hns]
    exact hR _ _ _ (hQ _ _ _ (Fr.keep (by with_reducible assumption)))
end
end
section
open PySem PySem.W PyProof.Rows PySem.Calls
section
variable {pg : Program} {w : World} {A : Around} {E : Value → Shared → Prop} {hp : Heap} {g : Array GenState} {d : Drawn} {tk : Nat} {os : OsState} {e it : Addr} {i c : Nat} {x : Str} {t : Tok} {old : Value}
/-- a step of enumerate over a str, with the tokens told -/
theorem en_item {Q : Value → Shared → Prop} (he : IsEnum hp e it i old) (hne : e ≠ it) (hi : hp.IsStrIter it (strIterType x) x t i) (hx : x.cps[i]? = some c)
    (hQ : ∀ h', IsEnumOut h' e it ((i : Int) + 1) (.str ⟨#[c]⟩ tk) hp.objs.size → h'.IsStrIter it (strIterType x) x t (i + 1) → h'.IsTuple hp.objs.size #[.int i (tk + 1), .str ⟨#[c]⟩ tk] →
      (∀ b o, b ≠ e → b ≠ it → hp.get? b = some o → h'.get? b = some o) → Q (.ref hp.objs.size) ⟨h', g, d, tk + 1 + 1, os⟩) :
    wpAny (model pg w) A (Builtin.«enumerate.__next__» ⟨[.ref e], []⟩) (fun f s' => ∃ v, f = .done (.ret v) ∧ Q v s') E ⟨hp, g, d, tk, os⟩ := by
  have nx : ∀ R : Value → Shared → Prop, (∀ h', h'.IsStrIter it (strIterType x) x t (i + 1) → Heap.SameBut it hp h' → R (.str ⟨#[c]⟩ tk) ⟨h', g, d, tk + 1, os⟩) →
      wpAny (model pg w) A (Builtin.SmallTypes.nextOf (.ref it)) R E ⟨hp, g, d, tk, os⟩ := by
    intro R hR
    unfold strIterType at hi hR
    split at hi
    · rename_i q; rw [if_pos q] at hR; exact wpAny_nextOf_ascii_item hi hx hR
    · rename_i q; rw [if_neg q] at hR; exact wpAny_nextOf_wide_item hi hx hR
  have elt : e < hp.objs.size := Heap.lt_size he
  obtain ⟨oi, ho, hco, hdo⟩ := id hi
  have ilt : it < hp.objs.size := Heap.lt_size ho
  show wpAny _ _ (field (.ref e) 2 >>= _) _ _ _
  refine wpAny_bind (wpAny_field he rfl (x := .ref it) rfl (wpAny_bind (nx _ fun h₁ i₁ s₁ => ?_)))
  have z₁ : h₁.objs.size = hp.objs.size := s₁.1
  have e₁ : IsEnum h₁ e it i old := (s₁.2 e hne).trans he
  have k₁ : ∀ b o, b ≠ it → hp.get? b = some o → h₁.get? b = some o := fun b o n q => (s₁.2 b n).trans q
  clear nx s₁ hi he ho
  show wpAny _ _ (field (.ref e) 3 >>= _) _ _ _
  refine wpAny_bind (wpAny_field e₁ rfl (x := rawInt i) rfl ?_)
  show wpAny _ _ (field (.ref e) 4 >>= _) _ _ _
  refine wpAny_bind (wpAny_field e₁ rfl (x := .none) rfl ?_)
  show wpAny _ _ (mkInt i >>= _) _ _ _
  refine wpAny_bind (wpAny_mkInt ?_)
  show wpAny _ _ (setField (.ref e) 3 (rawInt ((i : Int) + 1)) >>= _) _ _ _
  refine wpAny_bind (wpAny_setField_rec e₁ (by simp) fun h₂ e₂ s₂ => ?_)
  show wpAny _ _ (setField (.ref e) 4 .none >>= _) _ _ _
  refine wpAny_bind (wpAny_setField_rec e₂ (by simp) fun h₃ e₃ s₃ => ?_)
  have s₂' : Heap.SameBut e h₁ h₂ := s₂
  have s₃' : Heap.SameBut e h₂ h₃ := s₃
  have z₃ : h₃.objs.size = hp.objs.size := by rw [s₃'.1, s₂'.1, z₁]
  have k₃ : ∀ b o, b ≠ e → b ≠ it → hp.get? b = some o → h₃.get? b = some o := fun b o n m q => (s₃'.2 b n).trans ((s₂'.2 b n).trans (k₁ b o m q))
  have i₃ : h₃.IsStrIter it (strIterType x) x t (i + 1) := by
    obtain ⟨o, q, r⟩ := i₁
    exact ⟨o, (s₃'.2 it (Ne.symm hne)).trans ((s₂'.2 it (Ne.symm hne)).trans q), r⟩
  have e₃' : IsEnum h₃ e it ((i : Int) + 1) old := e₃
  clear e₁ e₂ e₃ s₂ s₃ s₂' s₃' i₁ k₁ z₁
  show wpAny _ _ (newTuple [.int i (tk + 1), .str ⟨#[c]⟩ tk] >>= _) _ _ ⟨h₃, g, d, tk + 1 + 1, os⟩
  refine wpAny_bind (wpAny_newTuple ?_)
  have zz : ({ heap := h₃, gens := g, drawn := d, toks := tk + 1 + 1, os := os } : Shared).heap.objs.size = hp.objs.size := z₃
  rw [zz]
  obtain ⟨h₄, hh₄⟩ : ∃ y, y = h₃.push { cls := .type "tuple", data := .seq [Value.int i (tk + 1), .str ⟨#[c]⟩ tk].toArray } := ⟨_, rfl⟩
  have g₄ : ∀ b o, h₃.get? b = some o → h₄.get? b = some o := fun b o q => by rw [hh₄]; exact Heap.get?_push_of_some _ q
  have t₄ : h₄.get? hp.objs.size = some { cls := .type "tuple", data := .seq #[.int i (tk + 1), .str ⟨#[c]⟩ tk] } := by rw [hh₄, ← z₃]; exact Heap.get?_push_size _ rfl
  have e₄ : IsEnum h₄ e it ((i : Int) + 1) old := g₄ _ _ e₃'
  show wpAny _ _ (Builtin.SmallTypes.ownedTupleIsFree (.ref e) >>= _) _ _ ⟨h₃.push { cls := .type "tuple", data := .seq [Value.int i (tk + 1), .str ⟨#[c]⟩ tk].toArray }, g, d, tk + 1 + 1, os⟩
  rw [← hh₄]
  unfold Builtin.SmallTypes.ownedTupleIsFree
  refine wpAny_bind (wpAny_bind (wpAny_field e₄ rfl (x := .none) rfl (wpAny_pure ?_)))
  simp only [if_true]
  refine wpAny_bind (wpAny_rule (wpAny_bind (wpAny_field e₄ rfl (x := old) rfl ?_)))
  refine wpAny_bind (wpAny_setField_rec e₄ (by simp) fun h₅ e₅ s₅ => ?_)
  show wpAny _ _ (Builtin.SmallTypes.ownedTupleHandOut (.ref e) (.ref hp.objs.size) >>= _) _ _ ⟨h₅, g, d, tk + 1 + 1, os⟩
  unfold Builtin.SmallTypes.ownedTupleHandOut
  refine wpAny_bind (wpAny_bind (wpAny_setField_rec e₅ (by simp) fun h₆ e₆ s₆ => ?_))
  refine wpAny_setField_rec e₆ (by simp) fun h₇ e₇ s₇ => ?_
  have u₇ : ∀ b o, b ≠ e → h₄.get? b = some o → h₇.get? b = some o := fun b o n q => ((show Heap.SameBut e h₆ h₇ from s₇).2 b n).trans (((show Heap.SameBut e h₅ h₆ from s₆).2 b n).trans (((show Heap.SameBut e h₄ h₅ from s₅).2 b n).trans q))
  refine wpAny_bind (wpAny_letGo (wpAny_pure ⟨_, rfl, hQ h₇ e₇ ?_ ?_ ?_⟩))
  · obtain ⟨o, q, r⟩ := i₃
    exact ⟨o, u₇ _ _ (Ne.symm hne) (g₄ _ _ q), r⟩
  · exact ⟨_, u₇ _ _ (Nat.ne_of_gt elt) t₄, rfl, _, rfl⟩
  · exact fun b o n m q => u₇ b o n (g₄ _ _ (k₃ b o n m q))
theorem en_next {Q : Option Value → Shared → Prop} (he : IsEnum hp e it i old) (hne : e ≠ it) (hi : hp.IsStrIter it (strIterType x) x t i) (hx : x.cps[i]? = some c)
    (hQ : ∀ h', IsEnumOut h' e it ((i : Int) + 1) (.str ⟨#[c]⟩ tk) hp.objs.size → h'.IsStrIter it (strIterType x) x t (i + 1) → h'.IsTuple hp.objs.size #[.int i (tk + 1), .str ⟨#[c]⟩ tk] →
      (∀ b o, b ≠ e → b ≠ it → hp.get? b = some o → h'.get? b = some o) → Q (some (.ref hp.objs.size)) ⟨h', g, d, tk + 1 + 1, os⟩) :
    wpAny (model pg w) A (pyNext (.ref e)) Q E ⟨hp, g, d, tk, os⟩ := by
  have hT : (⟨hp, g, d, tk, os⟩ : Shared).TypeIs (.ref e) "enumerate" := ⟨_, he, rfl⟩
  unfold pyNext
  exact wpAny_bind (wpAny_attempt (wpAny_callSpecial?_slot (name := Str.ofString "__next__") hT F.slot_enumerate_next
    (wpAny_call_entry F.slot_enumerate_next hT F.entry_enumerate_next (en_item he hne hi hx fun h' a b c' k => wpAny_pure (hQ h' a b c' k)) (F.args_enumerate_next_1 _))))
end
end
section
section
variable {w : World} {A : Around} {E : Value → Shared → Prop} {s₀ : Shared} {h : Heap} {k : Nat} {d : Ad} {mg mb : Str → Option Value}
/-- as k_enter, with the count of tokens -/
theorem k_enterT {i : Nat} {f : Addr} {dV args : List Value} {Q : Value → Shared → Prop} {n : Nat} {body : List Stmt} {scope : Scope} {params : Arguments} (binds : List (Str × Value)) (G : Glb d mg mb h) (H : FnIs h i f dV) (hA : AOk A (n + 1))
    (hp : fparams i = params) (hb : fbody i = body) (hs : fscope i = scope)
    (hbind : ∀ dv kV doc pm an cdv ct, (dV = [] → dv = .none) → (dV ≠ [] → ∃ T oT n, dv = .ref T ∧ h.get? T = some oT ∧ oT.data = .seq dV.toArray n) → BindsTo (S s₀ h k) (fnOf (fname i) (fname i) params body scope dv kV doc pm an cdv ct) ⟨args, []⟩ binds)
    (hcell : ∀ x ∈ scope.names, x.2 ≠ .cell) (hloc : ∀ x ∈ binds, scope.names.lookup x.1 = some .local) (hco : scope.isCoroutine = false) (hgen : scope.isGenerator = false) (hk : scope.kind = .function)
    (hbody : ∀ (h₁ : Heap) (k₁ : Nat) (L : Addr) (cdv : Value) (A' : Around) (Qf : Flow → Shared → Prop), k ≤ k₁ → AOk A' n →
      (∀ v h' k', Q v (S s₀ h' k') → Qf (.ret v) (S s₀ h' k')) → Fr h L h₁ (look binds.reverse) → News h L h₁ [] →
      wpAny (model prog w) A' (execs body (envX (fname i) scope L f cdv [])) Qf (fun _ _ => False) (S s₀ h₁ k₁)) :
    wpAny (model prog w) A (call (.ref f) args) Q E (S s₀ h k) := by
  refine fn_enter binds G H hA hp hb hs hbind hcell hloc hco hgen hk (fun h₁ L cdv A' Qf Ef hA' hR _ F N => ?_)
  have e : (fun x => binds.reverse.lookup x) = look binds.reverse := funext fun x => look_lookup _ x
  rw [e] at F
  exact wpAny_mono (hbody h₁ _ L cdv A' Qf (Nat.le_add_right k binds.length) hA' (fun v h' k' q => hR v _ q) F N) (fun _ _ x => x) fun _ _ x => x.elim
theorem o_is {l r : T} {t u : Tok} {Q : Value → Shared → Prop} (ht : t ≠ 0) (hu : u ≠ 0) (htu : t ≠ u) (hb : NoneBooked h) (hq : ∀ b, (l ≠ r → b = false) → Q (.bool b) (S s₀ h k)) :
    wpAny (model prog w) A (compareOp .Is (.str (mkS l) t) (.str (mkS r) u)) Q E (S s₀ h k) := by
  show wpAny _ A (do return .bool (← isSame (.str (mkS l) t) (.str (mkS r) u))) Q E _
  by_cases e : l = r
  · exact wpAny_bind (wpAny_isSame_str (by simp [ht, hu]) hb fun b => wpAny_pure (hq b fun n => absurd e n))
  · exact wpAny_bind (wpAny_of_eq (isSame_str_other _ _ _ _ (by simp [ht, hu]) (by simpa using htu) (by rw [mkS_beq]; exact decide_eq_false e)) (wpAny_pure (hq false fun _ => rfl)))
theorem nbk {h h' : Heap} (x : NoneBooked h) (kk : ∀ b o, h.get? b = some o → h'.get? b = some o) : NoneBooked h' := by
  obtain ⟨mc, hn, hk⟩ := x
  exact ⟨mc, hn.keeps kk, hk⟩
theorem fr_pass {h₀ h h' : Heap} {L e it : Addr} {m : Str → Option Value} (F : Fr h₀ L h m) (he : h₀.get? e = none) (hi : h₀.get? it = none) (hLe : L ≠ e) (hLi : L ≠ it)
    (hk : ∀ b o, b ≠ e → b ≠ it → h.get? b = some o → h'.get? b = some o) : Fr h₀ L h' m := by
  obtain ⟨o, es, ep, q, r⟩ := F.ns
  refine ⟨⟨o, es, ep, hk _ _ hLe hLi q, r⟩, fun b o q => hk b o (fun z => ?_) (fun z => ?_) (F.keep b o q), F.above⟩
  · rw [z, he] at q; cases q
  · rw [z, hi] at q; cases q
noncomputable def IdxI (s₀ : Shared) (h : Heap) (L e it : Addr) (x : T) (c i0 : Nat) (t u : Tok) (k0 : Nat) (n : Nat) (s' : Shared) : Prop :=
  ∃ (h' : Heap) (kk : Nat) (vals : List (Str × Value)) (i : Nat) (old : Value), s' = S s₀ h' kk ∧ n = x.length + 1 - i ∧ IsEnum h' e it i old ∧ h'.IsStrIter it (strIterType (mkS x)) (mkS x) t i ∧ Fr h L h' (look vals) ∧
    look vals (Str.ofString "b") = some (.str (mkS [c]) u) ∧ k0 ≤ kk ∧ i ≤ i0
theorem c_indexOf {n : Nat} {x : T} {c i0 : Nat} {t u : Tok} {Q : Value → Shared → Prop} (G : Glb d mg mb h) (hnb : NoneBooked h) (hA : AOk A (n + 1)) (hu : u ≠ 0) (huk : u < k) (hc : x[i0]? = some c) (hmin : ∀ j < i0, x[j]? ≠ some c)
    (hQ : ∀ tk h' k', Ext h h' → Q (.int (i0 : Nat) tk) (S s₀ h' k')) :
    wpAny (model prog w) A (call (.ref d.indexOf) [.str (mkS x) t, .str (mkS [c]) u]) Q E (S s₀ h k) := by
  refine' k_enterT (i := 27) [(Str.ofString "a", .str (mkS x) t), (Str.ofString "b", .str (mkS [c]) u)] G G.indexOf hA ?hp ?hb ?hs ?hbind ?hcell ?hloc ?hco ?hgen ?hk ?_
  wtm_at "ku_lit"
  wtm_at "ku_bind0"
  intro h₁ k₁ L cdv A' Qf hkk hA' hR F N
  refine k_cons (wpAny_For ?_)
  repeat' wtm_at "ku"
  refine call_enumerate_str (s := S s₀ h₁ k₁) fun h2 e2 i2 z2 kp2 => ?_
  have hL1 : L < h₁.objs.size := F.ns.lt
  have hle : h.objs.size ≤ h₁.objs.size := Nat.le_trans F.above (Nat.le_of_lt hL1)
  have hsz : (S s₀ h₁ k₁).heap.objs.size = h₁.objs.size := rfl
  rw [hsz] at e2 i2 z2 ⊢
  obtain ⟨ev, hev⟩ : ∃ y, y = h₁.objs.size + 1 := ⟨_, rfl⟩
  obtain ⟨iv, hiv⟩ : ∃ y, y = h₁.objs.size := ⟨_, rfl⟩
  rw [← hev, ← hiv] at e2
  rw [← hiv] at i2
  rw [← hev]
  have ge : h.get? ev = none := Heap.get?_none_of_le (by (first | lia | omega))
  have gi : h.get? iv = none := Heap.get?_none_of_le (by (first | lia | omega))
  have nei : ev ≠ iv := by (first | lia | omega)
  have nLe : L ≠ ev := by rw [hev]; exact Nat.ne_of_lt (Nat.lt_succ_of_lt hL1)
  have nLi : L ≠ iv := by rw [hiv]; exact Nat.ne_of_lt hL1
  refine wpAny_pyIter_enum e2 ?_
  have F2 : Fr h L h2 (look _) := ⟨let ⟨o, es, ep, q, r⟩ := F.ns; ⟨o, es, ep, kp2 _ _ q, r⟩, fun b o q => kp2 _ _ (F.keep b o q), F.above⟩
  clear hsz hev hiv
  refine codeAny_forLoop_any (IdxI s₀ h L ev iv x c i0 t u k) ?_ (x.length + 1) ⟨h2, k₁, _, 0, .none, rfl, rfl, e2, i2, F2, rfl, hkk, Nat.zero_le _⟩
  rintro n' s' ⟨h', kk, vals, i, old, rfl, rfl, he, hi, F3, hbv, hk3, hi3⟩
  have hlt : i0 < x.length := (List.getElem?_eq_some_iff.mp hc).1
  obtain ⟨ch, hch⟩ : ∃ y, x[i]? = some y := ⟨_, List.getElem?_eq_getElem (by (first | lia | omega))⟩
  refine en_next (x := mkS x) he nei hi (by simpa [mkS] using hch) fun h4 eo4 i4 t4 kp4 => ?_
  have F4 := fr_pass F3 ge gi nLe nLi kp4
  refine wpAny_letOwnedTupleGo_enum eo4 fun h5 e5 s5 => ?_
  have s5' : Heap.SameBut ev h4 h5 := s5
  have hTe : h'.objs.size ≠ ev := Nat.ne_of_gt (Heap.lt_size he)
  have hTi : h'.objs.size ≠ iv := by obtain ⟨o, q, _⟩ := hi; exact Nat.ne_of_gt (Heap.lt_size q)
  have t5 : h5.IsTuple h'.objs.size #[.int i (kk + 1), .str ⟨#[ch]⟩ kk] := t4.at fun o q => (s5'.2 _ hTe).trans q
  have F5 := fr_pass (h' := h5) F4 ge gi nLe nLi fun b o n1 n2 q => (s5'.2 b n1).trans q
  have i5 : h5.IsStrIter iv (strIterType (mkS x)) (mkS x) t (i + 1) := by obtain ⟨o, q, r⟩ := i4; exact ⟨o, (s5'.2 _ (Ne.symm nei)).trans q, r⟩
  refine wpAny_assign_Tuple hA'.handled t5 rfl rfl fun h6 x6 => ?_
  replace x6 : Heap.ExtBut h5.objs.size h5 h6 := x6
  have up6 : ∀ b o, h5.get? b = some o → h6.get? b = some o := fun b o q => x6 b o (Nat.ne_of_lt (Heap.lt_size q)) q
  have F6 : Fr h L h6 (look vals) := ⟨let ⟨o, es, ep, q, r⟩ := F5.ns; ⟨o, es, ep, up6 _ _ q, r⟩, fun b o q => up6 _ _ (F5.keep b o q), F5.above⟩
  have e6 := up6 _ _ e5
  have i6 : h6.IsStrIter iv (strIterType (mkS x)) (mkS x) t (i + 1) := by obtain ⟨o, q, r⟩ := i5; exact ⟨o, up6 _ _ q, r⟩
  show wpAny _ _ (do holding [_] (assign (.Name _ _) _ _); do holding [] (assign (.Name _ _) _ _); pure ()) _ _ _
  refine wpAny_bind (wpAny_holding (wpAny_assign_Name (wpAny_storeName_local rfl F6.ns (fun h7 hn7 hs7 => ?_) rfl)))
  replace hs7 : Heap.SameBut L h6 h7 := hs7
  have F7 : Fr h L h7 (look ((Str.ofString "i", .int i (kk + 1)) :: vals)) := F6.set hn7 hs7
  refine wpAny_bind (wpAny_holding (wpAny_assign_Name (wpAny_storeName_local rfl F7.ns (fun h8 hn8 hs8 => wpAny_pure ?_) rfl)))
  replace hs8 : Heap.SameBut L h7 h8 := hs8
  have F8 : Fr h L h8 (look ((Str.ofString "j", .str (mkS [ch]) kk) :: (Str.ofString "i", .int i (kk + 1)) :: vals)) := F7.set hn8 hs8
  have e8 : IsEnum h8 ev iv ((i : Int) + 1) (.str (mkS [ch]) kk) := (hs8.2 _ (Ne.symm nLe)).trans ((hs7.2 _ (Ne.symm nLe)).trans e6)
  have i8 : h8.IsStrIter iv (strIterType (mkS x)) (mkS x) t (i + 1) := by obtain ⟨o, q, r⟩ := i6; exact ⟨o, (hs8.2 _ (Ne.symm nLi)).trans ((hs7.2 _ (Ne.symm nLi)).trans q), r⟩
  have hku : kk ≠ u := Nat.ne_of_gt (Nat.lt_of_lt_of_le huk hk3)
  have htk : kk ≠ 0 := Nat.ne_of_gt (Nat.lt_of_le_of_lt (Nat.zero_le _) (Nat.lt_of_lt_of_le huk hk3))
  have nb8 : NoneBooked h8 := nbk hnb F8.keep
  change wpAny _ _ _ _ _ (S s₀ h8 (kk + 1 + 1 + 1 + 1))
  have done : ∀ h' k', Ext h h' → i = i0 → Qf (.ret (.int (i : Int) (kk + 1))) (S s₀ h' k') := fun h' k' xe ei => hR _ _ _ (by subst ei; exact hQ _ _ _ xe)
  by_cases hcc : ch = c
  · subst hcc
    have ei : i = i0 := by
      rcases Nat.lt_or_ge i i0 with q | q
      · exact absurd hch (hmin i q)
      · (first | lia | omega)
    repeat' wtm_at "ku"
    refine o_is htk hu hku nb8 fun bb _ => ?_
    repeat' wtm_at "ku"
    refine Br.mk' (fun _ => ?_) (fun _ => ?_)
    · refine Br.t rfl ?_
      repeat' wtm_at "ku"
      exact done _ _ F8.keep ei
    · repeat' wtm_at "ku"
      refine Br.t (by simp) ?_
      repeat' wtm_at "ku"
      exact done _ _ F8.keep ei
  · have ei : i < i0 := by
      rcases Nat.lt_or_ge i i0 with q | q
      · exact q
      · exact absurd (Option.some.inj ((show x[i]? = some c by rw [show i = i0 by (first | lia | omega)]; exact hc) ▸ hch).symm) hcc
    repeat' wtm_at "ku"
    refine o_is htk hu hku nb8 fun bb hb => ?_
    rw [hb (by simpa using hcc)]
    repeat' wtm_at "ku"
    refine Br.f rfl ?_
    repeat' wtm_at "ku"
    refine Br.f (by simpa using hcc) ?_
    repeat' wtm_at "ku"
    exact ⟨x.length + 1 - (i + 1), by (first | lia | omega), h8, _, _, i + 1, _, rfl, rfl, e8, i8, F8, by wtm_at "lk", by (first | lia | omega), ei⟩
end
end
section
section
variable {w : World} {A : Around} {E : Value → Shared → Prop} {s₀ : Shared} {h : Heap} {k : Nat} {d : Ad} {mg mb : Str → Option Value}
theorem c_floordiv {n : Nat} {a b : Int} {t u : Tok} {Q : Value → Shared → Prop} (G : Glb d mg mb h) (hA : AOk A (n + 1)) (hb : 0 < b) (hbs : b.natAbs < 1073741824) (hQ : ∀ tk h' k', Ext h h' → Q (.int (a / b) tk) (S s₀ h' k')) :
    wpAny (model prog w) A (call (.ref d.floordiv) [.int a t, .int b u]) Q E (S s₀ h k) := by
  refine' k_enter (i := 22) [(Str.ofString "a", .int a t), (Str.ofString "b", .int b u)] G G.floordiv hA ?hp ?hb ?hs ?hbind ?hcell ?hloc ?hco ?hgen ?hk ?_
  wtm_at "ku_lit"
  wtm_at "ku_bind0"
  intro h₁ k₁ L cdv A' Qf hA' hR F N
  repeat' wtm_at "ku"
  exact hR _ _ _ (hQ _ _ _ F.keep)
theorem c_mod {n : Nat} {a b : Int} {t u : Tok} {Q : Value → Shared → Prop} (G : Glb d mg mb h) (hA : AOk A (n + 1)) (hb : 0 < b) (hQ : ∀ tk h' k', Ext h h' → Q (.int (a % b) tk) (S s₀ h' k')) :
    wpAny (model prog w) A (call (.ref d.mod) [.int a t, .int b u]) Q E (S s₀ h k) := by
  refine' k_enter (i := 23) [(Str.ofString "a", .int a t), (Str.ofString "b", .int b u)] G G.mod hA ?hp ?hb ?hs ?hbind ?hcell ?hloc ?hco ?hgen ?hk ?_
  wtm_at "ku_lit"
  wtm_at "ku_bind0"
  intro h₁ k₁ L cdv A' Qf hA' hR F N
  repeat' wtm_at "ku"
  exact hR _ _ _ (hQ _ _ _ F.keep)
theorem c_mul {n : Nat} {a b : Int} {t u : Tok} {Q : Value → Shared → Prop} (G : Glb d mg mb h) (hA : AOk A (n + 1)) (ha : a.natAbs < 2 ^ 30) (hb : b.natAbs < 2 ^ 30) (hQ : ∀ tk h' k', Ext h h' → Q (.int (a * b) tk) (S s₀ h' k')) :
    wpAny (model prog w) A (call (.ref d.mul) [.int a t, .int b u]) Q E (S s₀ h k) := by
  refine' k_enter (i := 24) [(Str.ofString "a", .int a t), (Str.ofString "b", .int b u)] G G.mul hA ?hp ?hb ?hs ?hbind ?hcell ?hloc ?hco ?hgen ?hk ?_
  wtm_at "ku_lit"
  wtm_at "ku_bind0"
  intro h₁ k₁ L cdv A' Qf hA' hR F N
  repeat' wtm_at "ku"
  exact hR _ _ _ (hQ _ _ _ F.keep)
theorem c_getitem {n : Nat} {l : T} {i : Nat} {c : Nat} {t u : Tok} {Q : Value → Shared → Prop} (G : Glb d mg mb h) (hA : AOk A (n + 1)) (hl : l.length < 2 ^ 60) (hc : l[i]? = some c) (hQ : ∀ tk h' k', Ext h h' → Q (.str (mkS [c]) tk) (S s₀ h' k')) :
    wpAny (model prog w) A (call (.ref d.getitem) [.str (mkS l) t, .int (i : Int) u]) Q E (S s₀ h k) := by
  refine' k_enter (i := 26) [(Str.ofString "a", .str (mkS l) t), (Str.ofString "b", .int (i : Int) u)] G G.getitem hA ?hp ?hb ?hs ?hbind ?hcell ?hloc ?hco ?hgen ?hk ?_
  wtm_at "ku_lit"
  wtm_at "ku_bind0"
  intro h₁ k₁ L cdv A' Qf hA' hR F N
  repeat' wtm_at "ku"
  refine o_item i rfl hc hl ?_; intro _ _
  exact hR _ _ _ (hQ _ _ _ F.keep)
theorem pl_iff (c : Nat) : pl c = true ↔ c = 9 ∨ (32 ≤ c ∧ c ≤ 126 ∧ c ≠ 61) := by
  simp [pl, and_assoc]
theorem hexU_at (x : Nat) (hx : x < 16) : ([48, 49, 50, 51, 52, 53, 54, 55, 56, 57, 65, 66, 67, 68, 69, 70] : T)[x]? = some (hexU x) := by
  have : ∀ y < 16, ([48, 49, 50, 51, 52, 53, 54, 55, 56, 57, 65, 66, 67, 68, 69, 70] : T)[y]? = some (hexU y) := by decide
  exact this x hx
theorem c_code {n : Nat} {c : Nat} {t : Tok} {Q : Value → Shared → Prop} (G : Glb d mg mb h) (hA : AOk A (n + 1)) (hc : c < 256) (hQ : ∀ tk h' k', Ext h h' → Q (.str (mkS (code c)) tk) (S s₀ h' k')) :
    wpAny (model prog w) A (call (.ref d.code) [.str (mkS [c]) t]) Q E (S s₀ h k) := by
  refine' k_enter (i := 30) [(Str.ofString "sign", .str (mkS [c]) t)] G G.code hA ?hp ?hb ?hs ?hbind ?hcell ?hloc ?hco ?hgen ?hk ?_
  wtm_at "ku_lit"
  wtm_at "ku_bind0"
  intro h₁ k₁ L cdv A' Qf hA' hR F N
  refine k_cons (k_if (t_cut (pl c) ?_ fun k' => ?_))
  · repeat' wtm_at "ku"
    refine Br.mk' (fun q1 => ?_) (fun q1 => ?_)
    · exact ⟨((pl_iff c).mpr (.inl (by simpa using q1))).symm, _, rfl⟩
    have n9 : c ≠ 9 := by simpa using q1
    repeat' wtm_at "ku"
    refine Br.mk' (fun q2 => ?_) (fun q2 => ?_)
    · have h32 : 32 ≤ c := by simpa using q2
      repeat' wtm_at "ku"
      refine Br.mk' (fun q3 => ?_) (fun q3 => ?_)
      · have h126 : c ≤ 126 := by simpa using q3
        repeat' wtm_at "ku"
        refine ⟨?_, _, rfl⟩
        rw [Bool.eq_iff_iff, pl_iff]; simp only [decide_eq_true_eq]
        constructor
        · intro h; exact .inr ⟨h32, h126, by simpa using h⟩
        · intro h; rcases h with h | h
          · exact absurd h n9
          · simpa using h.2.2
      · refine ⟨?_, _, rfl⟩
        have : ¬ c ≤ 126 := by simpa using q3
        symm; rw [Bool.eq_false_iff, Ne, pl_iff]; (first | lia | omega)
    · refine Br.f rfl ⟨?_, _, rfl⟩
      have : ¬ 32 ≤ c := by simpa using q2
      symm; rw [Bool.eq_false_iff, Ne, pl_iff]; (first | lia | omega)
  refine Br.mk' (fun q => ?_) (fun q => ?_)
  · repeat' wtm_at "ku"
    refine hR _ _ _ ?_
    unfold code at hQ
    rw [if_pos q] at hQ
    exact hQ _ _ _ F.keep
  · unfold code at hQ
    rw [if_neg (by rw [q]; decide)] at hQ
    repeat' wtm_at "ku"
    refine o_item (c / 16) (by (first | lia | omega)) (hexU_at _ (by (first | lia | omega))) (by decide) ?_; intro _ _
    repeat' wtm_at "ku"
    refine o_item (c % 16) (by (first | lia | omega)) (hexU_at _ (by (first | lia | omega))) (by decide) ?_; intro _ _
    repeat' wtm_at "ku"
    exact hR _ _ _ (hQ _ _ _ F.keep)
end
end
end
section
open PySem PySem.W PyProof.Rows PySem.Calls
section
variable {w : World} {A : Around} {E : Value → Shared → Prop} {s₀ : Shared} {h : Heap} {k : Nat} {d : Ad} {mg mb : Str → Option Value}
/-- a def with cells is entered -/
theorem k_enterC {i : Nat} {f : Addr} {dV args : List Value} {Q : Value → Shared → Prop} {n : Nat} {body : List Stmt} {scope : Scope} {params : Arguments} (binds : List (Str × Value)) (cl : Addr → List (Str × Addr)) (G : Glb d mg mb h) (H : FnIs h i f dV) (hA : AOk A (n + 1))
    (hp : fparams i = params) (hb : fbody i = body) (hs : fscope i = scope)
    (hbind : ∀ dv kV doc pm an cdv ct, (dV = [] → dv = .none) → (dV ≠ [] → ∃ T oT n, dv = .ref T ∧ h.get? T = some oT ∧ oT.data = .seq dV.toArray n) → BindsTo (S s₀ h k) (fnOf (fname i) (fname i) params body scope dv kV doc pm an cdv ct) ⟨args, []⟩ binds)
    (hkind : ∀ n, ∀ x ∈ binds, scope.names.lookup x.1 = some .local ∨ (scope.names.lookup x.1 = some .cell ∧ ((cellsFrom n scope.names []).lookup x.1).isSome = true))
    (hnd : ((cellsFrom 0 scope.names []).map (·.1)).Nodup) (hcl : ∀ L, cellsFrom (L + 1) scope.names [] = cl L) (hco : scope.isCoroutine = false) (hgen : scope.isGenerator = false) (hk : scope.kind = .function)
    (hbody : ∀ (h₁ : Heap) (k₁ : Nat) (L : Addr) (cdv : Value) (A' : Around) (Qf : Flow → Shared → Prop) (cells : List (Addr × Obj)), k ≤ k₁ → AOk A' n → A' = A.deeper (envX (fname i) scope L f cdv (cl L)) →
      (∀ v h' k', Q v (S s₀ h' k') → Qf (.ret v) (S s₀ h' k')) → Fr h L h₁ (bindL (envOfC (fname i) scope L f cdv).kindOf binds fun _ => none) → News h L h₁ cells →
      CellsAre (bindC (envOfC (fname i) scope L f cdv).kindOf binds fun _ => none) (cl L) cells →
      wpAny (model prog w) A' (execs body (envX (fname i) scope L f cdv (cl L))) Qf (fun _ _ => False) (S s₀ h₁ k₁)) :
    wpAny (model prog w) A (call (.ref f) args) Q E (S s₀ h k) := by
  subst hp hb hs
  obtain rfl : (fun L => cellsFrom (L + 1) (fscope i).names []) = cl := funext hcl
  obtain ⟨o, dv, kV, doc, pm, an, cdv, ct, h1, h2, h3, h4, h5⟩ := H
  refine wpAny_call (codeAny_call_function (fd := fnOf (fname i) (fname i) (fparams i) (fbody i) (fscope i) dv kV doc pm an cdv ct) (body := fbody i) hA.room h1 h2 hco hgen rfl h3 ?_)
  refine hbind dv kV doc pm an cdv ct h4 h5 _ _ _ _ ?_
  refine wpAny_with_toks (n := k) (Nat.le_refl _) ?_
  refine wpAny_newFunctionEnv_cells hk (hkind _) fun env' he s' x => fun htk => ?_
  subst he
  obtain ⟨h₁, tk, rfl, _⟩ := x.done
  have hk₁ := x.toInCall.keep
  refine ⟨G.nolimit.keeps hk₁, codeAny_func ?_⟩
  obtain ⟨cells, NC, Y⟩ := Cl.news (h₀ := h) (L := h.objs.size) (cs := cellsFrom (h.objs.size + 1) (fscope i).names []) (Nat.le_refl _) fun n c hm => ⟨x.cell n c (lookup_of_mem_nodup (cellsFrom_names (fscope i).names 0 (h.objs.size + 1) [] [] rfl ▸ hnd) hm), x.above n c hm⟩
  refine wpAny_mono (hbody h₁ tk h.objs.size cdv _ (fun fl s' => Q (match fl with | .ret v => v | _ => .none) s') cells htk (hA.deeper _) rfl (fun v h' k' q => q) ⟨x.toInCall.ns, hk₁, Nat.le_refl _⟩ NC Y) (fun _ _ q => q) fun _ _ q => q.elim
end
end
section
open PySem PySem.W PyProof.Rows PySem.Calls
/-- what a comprehension asks of what it goes through -/
structure CompAt (w : World) (A : Around) (s₀ : Shared) (h₀ : Heap) (L : Addr) (m : Str → Option Value) (news : List (Addr × Obj)) (n : Nat) (P : Nat → Value → Prop) (it : Value) (s₂ : Shared) : Prop where
  ex : ∃ (I : Addr) (fp wr : List Addr) (St : Nat → Heap → Prop) (h₂ : Heap) (k₂ : Nat), it = .ref I ∧ s₂ = S s₀ h₂ k₂ ∧ Walks prog w A I fp wr n P St ∧ St 0 h₂ ∧ (∀ b ∈ fp, b < h₂.objs.size) ∧ (∀ b ∈ wr, h₀.get? b = none) ∧ L ∉ wr ∧ (∀ p ∈ news, p.1 ∉ wr) ∧ Fr h₀ L h₂ m ∧ News h₀ L h₂ news
section
variable {w : World} {A : Around} {E : Value → Shared → Prop} {s₀ : Shared} {h h₀ : Heap} {k : Nat} {cn : Str} {cs : Scope} {L a : Addr} {ccd : Value} {cl : List (Str × Addr)} {m : Str → Option Value} {news : List (Addr × Obj)} {pos px py spos : Pos} {x y : Str} {elt iter : PySem.Expr} {scope : Scope} {cl2 : List (Str × Addr)}
/-- the element, in any state behind -/
noncomputable def EltOk (w : World) (A : Around) (h₀ : Heap) (L : Addr) (m : Str → Option Value) (news : List (Addr × Obj)) (P : Nat → Value → Prop) (Fm : Value → Value → Prop) (env : Env) (scope : Scope) (cl : List (Str × Addr)) (x : Str) (elt : PySem.Expr) (k : Nat) : Prop :=
  ∀ (s₃ : Shared) (C : Addr) (i : Nat) (v : Value) (h₃ : Heap) (k₃ : Nat) (m₃ : Str → Option Value) (E' : Value → Shared → Prop), P i v → h₃.Ns C m₃ → m₃ x = some v → Fr h₀ L h₃ m → News h₀ L h₃ news → k ≤ k₃ →
    wpAny (model prog w) A (eval elt (compEnvC scope cl C env)) (fun y s₄ => Fm v y ∧ ∃ h₄ k₄, s₄ = S s₃ h₄ k₄ ∧ Ext h₃ h₄) E' (S s₃ h₃ k₃)
theorem fr_wr {h₂ h' : Heap} {wr : List Addr} (F : Fr h₀ L h₂ m) (h1 : ∀ b ∈ wr, h₀.get? b = none) (h2 : L ∉ wr) (hk : ∀ b o, b ∉ wr → h₂.get? b = some o → h'.get? b = some o) : Fr h₀ L h' m := by
  obtain ⟨o, es, ep, q, r⟩ := F.ns
  refine ⟨⟨o, es, ep, hk _ _ h2 q, r⟩, fun b o q => hk b o (fun z => ?_) (F.keep b o q), F.above⟩
  rw [h1 b z] at q; cases q
theorem news_wr {h₂ h' : Heap} {wr : List Addr} (N : News h₀ L h₂ news) (h3 : ∀ p ∈ news, p.1 ∉ wr) (hk : ∀ b o, b ∉ wr → h₂.get? b = some o → h'.get? b = some o) : News h₀ L h' news :=
  fun p hp => ⟨hk _ _ (h3 p hp) (N p hp).1, (N p hp).2⟩
theorem quiet_of {n : Nat} {P : Nat → Value → Prop} {Fm : Value → Value → Prop} {env : Env} {s₂ : Shared} {wr : List Addr} {h₂ : Heap} {k₂ : Nat} (he : s₂ = S s₀ h₂ k₂) (hk2 : k ≤ k₂)
    (h1 : ∀ b ∈ wr, h₀.get? b = none) (h2 : L ∉ wr) (h3 : ∀ p ∈ news, p.1 ∉ wr) (F : Fr h₀ L h₂ m) (N : News h₀ L h₂ news) (H : EltOk w A h₀ L m news P Fm env scope cl2 x elt k) :
    QuietOnC prog w A env scope cl2 x [] elt wr P (fun _ => true) Fm s₂ where
  tests := fun C i v s₃ m₃ E' _ _ _ _ _ _ => by
    simp only [List.forIn_nil]
    exact wpAny_pure ⟨rfl, s₃.heap, s₃.toks, rfl, fun _ _ e => e⟩
  elt := fun C i v s₃ m₃ E' _ hP _ hn hm hk hle => by
    subst he
    have hh := H s₃ C i v s₃.heap s₃.toks m₃ E' hP hn hm (fr_wr F h1 h2 hk) (news_wr N h3 hk) (Nat.le_trans hk2 hle)
    refine wpAny_mono hh (fun y s₄ q => ?_) fun _ _ q => q
    obtain ⟨q1, h₄, k₄, rfl, q2⟩ := q
    exact ⟨q1, h₄, k₄, rfl, q2⟩
theorem paired_true {Fm : Value → Value → Prop} {vs ys : List Value} (H : Paired Fm (vs.filter fun _ => true) ys) : Paired Fm vs ys := by
  rw [List.filter_eq_self.mpr (by simp)] at H; exact H
theorem k_comp {Q : Value → Shared → Prop} (n : Nat) (P : Nat → Value → Prop) (Fm : Value → Value → Prop) (hn : n ≤ 10000)
    (hclos : closureFor scope (envX cn cs L a ccd cl) = pure cl2) (hcell : ∀ y ∈ scope.names, y.2 ≠ .cell) (hkind : scope.kind = .function)
    (hnames : ∀ y ∈ scope.names, y.2 = .local → scope.names.lookup y.1 = some .local) (hx : scope.names.lookup x = some .local)
    (hs : ∀ x, foldedSetIterable iter (envX cn cs L a ccd cl) x = pure x)
    (hit : wpAny (model prog w) A (eval iter (envX cn cs L a ccd cl)) (fun xv s₁ => wpAny (model prog w) A (pyIter xv) (fun it s₂ => CompAt w A s₀ h₀ L m news n P it s₂) E s₁) E (S s₀ h k))
    (helt : EltOk w A h₀ L m news P Fm (envX cn cs L a ccd cl) scope cl2 x elt k)
    (done : ∀ D h' k' (vs ys : List Value) z, Fr h₀ L h' m → News h₀ L h' ((D, listOf ys.toArray z) :: news) → (∀ p ∈ news, p.1 ≠ D) → k ≤ k' → vs.length = n → (∀ j v, vs[j]? = some v → P j v) → Paired Fm vs ys → Q (.ref D) (S s₀ h' k')) :
    wpAny (model prog w) A (eval (.ListComp elt [⟨.Name x px, iter, [], 0⟩] scope pos) (envX cn cs L a ccd cl)) Q E (S s₀ h k) := by
  refine wpAny_with_toks (n := k) (Nat.le_refl _) ?_
  refine wpAny_ListComp_free (fun _ => true) Fm hclos hcell hkind hnames hx ?_ hs
  have hit2 := wpAny_toks_of (n := k) (Nat.le_refl _) hit
  refine wpAny_mono hit2 (fun xv s₁ q => ?_) fun e s' q => fun _ => q.2
  have q2 := wpAny_toks_of (n := k) q.1 q.2
  refine wpAny_mono q2 (fun it s₂ q => ?_) fun e s' q => fun _ => q.2
  obtain ⟨hle, ⟨I, fp, wr, St, h₂, k₂, rfl, rfl, W, hst, hfp, h1, h2, h3, F, N⟩⟩ := q
  refine ⟨I, fp, wr, n, P, St, rfl, W, by unfold sizeLine; (first | lia | omega), hst, hfp, quiet_of (n := n) rfl hle h1 h2 h3 F N helt, ?_⟩
  intro D h' tk ys vs hD _ hpl hlen hP hF hk htk
  obtain ⟨z, hDo⟩ := hpl
  have hDn : (S s₀ h₂ k₂).heap.get? D = none := hD
  refine done D h' tk vs ys.toList z (fr_wr F h1 h2 hk) (fun p hp => ?_) (fun p hp e => ?_) htk hlen hP (paired_true hF)
  · rcases List.mem_cons.mp hp with rfl | hp
    · refine ⟨by simpa using hDo, fun e => ?_, ?_⟩
      · have h5 := F.ns
        obtain ⟨o, es, ep, q, _⟩ := h5
        subst e
        have q' : (S s₀ h₂ k₂).heap.get? D = some o := q
        rw [hDn] at q'; cases q'
      · cases q : h₀.get? D with
        | none => rfl
        | some o =>
          have q' : (S s₀ h₂ k₂).heap.get? D = some o := F.keep _ _ q
          rw [hDn] at q'; cases q'
    · exact news_wr N h3 hk p hp
  · have q' : (S s₀ h₂ k₂).heap.get? p.1 = some p.2 := (N p hp).1
    rw [e, hDn] at q'; cases q'
end
end
section
open PySem PySem.W PyProof.Rows PySem.Calls
section
variable {w : World} {A : Around} {E : Value → Shared → Prop} {s₀ : Shared} {h h₀ : Heap} {k : Nat} {cn : Str} {cs : Scope} {L a : Addr} {ccd : Value} {cl : List (Str × Addr)} {m : Str → Option Value} {news : List (Addr × Obj)} {pos px py spos : Pos} {x y : Str} {elt iter : PySem.Expr} {scope : Scope} {cl2 : List (Str × Addr)} {vals : List (Str × Value)} {l : T} {t : Tok}
/-- a comprehension kept in a local -/
theorem k_compA {Q : Flow → Shared → Prop} (_F : Fr h₀ L h (look vals)) (_N : News h₀ L h news) (n : Nat) (P : Nat → Value → Prop) (Fm : Value → Value → Prop) (hn : n ≤ 10000)
    (hsw : swapsWith (.ListComp elt [⟨.Name x px, iter, [], 0⟩] scope pos) (some (.Name y py)) spos.line (envX cn cs L a ccd cl) = pure true)
    (hclos : closureFor scope (envX cn cs L a ccd cl) = pure cl2) (hcell : ∀ y ∈ scope.names, y.2 ≠ .cell) (hkind : scope.kind = .function)
    (hnames : ∀ y ∈ scope.names, y.2 = .local → scope.names.lookup y.1 = some .local) (hx : scope.names.lookup x = some .local)
    (hy : (envX cn cs L a ccd cl).kindOf y = some .local) (hck : cs.kind = .function)
    (hs : ∀ x, foldedSetIterable iter (envX cn cs L a ccd cl) x = pure x)
    (hit : wpAny (model prog w) A (eval iter (envX cn cs L a ccd cl)) (fun xv s₁ => wpAny (model prog w) A (pyIter xv) (fun it s₂ => CompAt w A s₀ h₀ L (look vals) news n P it s₂) E s₁) E (S s₀ h k))
    (helt : EltOk w A h₀ L (look vals) news P Fm (envX cn cs L a ccd cl) scope cl2 x elt k)
    (done : ∀ D h' k' (vs ys : List Value) z, Fr h₀ L h' (look ((y, .ref D) :: vals)) → News h₀ L h' ((D, listOf ys.toArray z) :: news) → (∀ p ∈ news, p.1 ≠ D) → k ≤ k' → vs.length = n → (∀ j v, vs[j]? = some v → P j v) → Paired Fm vs ys → Q .next (S s₀ h' k')) :
    wpAny (model prog w) A (exec (.Assign [.Name y py] (.ListComp elt [⟨.Name x px, iter, [], 0⟩] scope pos) spos) (envX cn cs L a ccd cl)) Q E (S s₀ h k) := by
  refine wpAny_with_toks (n := k) (Nat.le_refl _) ?_
  refine wpAny_Assign_ListComp_free (fun _ => true) Fm hsw hclos hcell hkind hnames hx hy (by show (cs.kind == .class || (cs.kind == .module && L != mainGlobals)) = false; rw [hck]; rfl) ?_ hs
  have hit2 := wpAny_toks_of (n := k) (Nat.le_refl _) hit
  refine wpAny_mono hit2 (fun xv s₁ q => ?_) fun e s' q => fun _ => q.2
  have q2 := wpAny_toks_of (n := k) q.1 q.2
  refine wpAny_mono q2 (fun it s₂ q => ?_) fun e s' q => fun _ => q.2
  obtain ⟨hle, ⟨I, fp, wr, St, h₂, k₂, rfl, rfl, W, hst, hfp, h1, h2, h3, F, N⟩⟩ := q
  refine ⟨I, fp, wr, n, P, St, look vals, rfl, W, by unfold sizeLine; (first | lia | omega), hst, hfp, h2, F.ns, quiet_of (n := n) rfl hle h1 h2 h3 F N helt, ?_⟩
  intro D h' tk ys vs hD _ hpl hlen hP hF hns hk htk
  obtain ⟨z, hDo⟩ := hpl
  have hDn : (S s₀ h₂ k₂).heap.get? D = none := hD
  have nL : ∀ p ∈ news, p.1 ≠ L := fun p hp => (N p hp).2.1
  have nD : ∀ p ∈ news, p.1 ≠ D := fun p hp e => by
    have q' : (S s₀ h₂ k₂).heap.get? p.1 = some p.2 := (N p hp).1
    rw [e, hDn] at q'; cases q'
  refine done D h' tk vs ys.toList z ⟨hns, fun b o q => hk b o (fun e => ?_) (fun e => ?_) (F.keep b o q), F.above⟩ (fun p hp => ?_) nD htk hlen hP (paired_true hF)
  · exact absurd (Heap.lt_size q) (Nat.not_lt.mpr (e ▸ F.above))
  · rw [h1 b e] at q; cases q
  · rcases List.mem_cons.mp hp with rfl | hp
    · refine ⟨by simpa using hDo, fun e => ?_, ?_⟩
      · obtain ⟨o, es, ep, q, _⟩ := F.ns
        subst e
        have q' : (S s₀ h₂ k₂).heap.get? D = some o := q
        rw [hDn] at q'; cases q'
      · cases q : h₀.get? D with
        | none => rfl
        | some o =>
          have q' : (S s₀ h₂ k₂).heap.get? D = some o := F.keep _ _ q
          rw [hDn] at q'; cases q'
    · exact ⟨hk _ _ (nL p hp) (h3 p hp) (N p hp).1, (N p hp).2⟩
end
end
section
open PySem PySem.W PyProof.Rows PySem.Calls
section
variable {w : World} {A : Around} {E : Value → Shared → Prop} {s₀ : Shared} {h h₀ : Heap} {k : Nat} {cn : Str} {cs : Scope} {L a : Addr} {ccd : Value} {cl : List (Str × Addr)} {m : Str → Option Value} {news : List (Addr × Obj)} {pos px py spos : Pos} {x y : Str} {elt iter : PySem.Expr} {scope : Scope} {cl2 : List (Str × Addr)} {vals : List (Str × Value)} {l : T} {t u : Tok}
/-- a fresh iterator stands -/
theorem comp_push {n : Nat} {P : Nat → Value → Prop} {oi : Obj} {fp : List Addr} {St : Nat → Heap → Prop} (F : Fr h₀ L h m) (N : News h₀ L h news) (_ho : oi.isFreed = false) (W : Walks prog w A h.objs.size (h.objs.size :: fp) [h.objs.size] n P St)
    (hst : St 0 (h.push oi)) (hfp : ∀ b ∈ fp, b < h.objs.size) : CompAt w A s₀ h₀ L m news n P (.ref h.objs.size) (S s₀ (h.push oi) k) := by
  refine ⟨⟨h.objs.size, _, _, St, h.push oi, k, rfl, rfl, W, hst, ?_, ?_, ?_, ?_, F.push _, fun p hp => ⟨Heap.get?_push_of_some _ (N p hp).1, (N p hp).2⟩⟩⟩
  · intro b hb
    rw [Heap.size_push]
    rcases List.mem_cons.mp hb with rfl | hb
    · exact Nat.lt_succ_self _
    · exact Nat.lt_succ_of_lt (hfp b hb)
  · intro b hb
    rw [List.mem_singleton.mp hb]
    exact Heap.get?_none_of_le (Nat.le_trans F.above (Nat.le_of_lt F.ns.lt))
  · intro hm
    exact absurd F.ns.lt (List.mem_singleton.mp hm ▸ Nat.lt_irrefl _)
  · intro p hp hm
    exact absurd (Heap.lt_size (N p hp).1) (List.mem_singleton.mp hm ▸ Nat.lt_irrefl _)
theorem wk_list {D : Addr} {vs : List Value} (hA : A.handled = none) (hl : h.IsList D vs.toArray) (F : Fr h₀ L h m) (N : News h₀ L h news) :
    wpAny (model prog w) A (pyIter (.ref D)) (fun it s₂ => CompAt w A s₀ h₀ L m news vs.length (fun i v => vs[i]? = some v) it s₂) E (S s₀ h k) := by
  obtain ⟨ol, hol, _⟩ := id hl
  have hlt : D < h.objs.size := Heap.lt_size hol
  refine wpAny_pyIter_list (s := S s₀ h k) hl ?_
  have W := Walks.list (prog := prog) (w := w) hA h.objs.size D (Nat.ne_of_lt hlt) vs.toArray
  rw [List.size_toArray] at W
  have W2 : Walks prog w A h.objs.size [h.objs.size, D] [h.objs.size] vs.length (fun i v => vs[i]? = some v) (fun i h' => h'.IsListIter h.objs.size D i ∧ h'.IsList D vs.toArray) := by
    have e : (fun (i : Nat) (v : Value) => vs.toArray[i]? = some v) = fun i v => vs[i]? = some v := by funext i v; simp
    rw [e] at W; exact W
  exact comp_push F N rfl W2 ⟨⟨_, Heap.get?_push_size _ rfl, rfl, rfl⟩, hl.at fun o e => Heap.get?_push_of_some _ e⟩ fun b hb => by rw [List.mem_singleton.mp hb]; exact hlt
theorem wk_str (hA : A.handled = none) (F : Fr h₀ L h m) (N : News h₀ L h news) :
    wpAny (model prog w) A (pyIter (.str (mkS l) t)) (fun it s₂ => CompAt w A s₀ h₀ L m news l.length (fun i v => ∃ c u, l[i]? = some c ∧ v = .str (mkS [c]) u) it s₂) E (S s₀ h k) := by
  refine wpAny_pyIter_strU (s := S s₀ h k) ?_
  have e : (SignAt (mkS l)) = fun i v => ∃ c u, l[i]? = some c ∧ v = .str (mkS [c]) u := by
    funext i v; unfold SignAt; simp [mkS]
  have hz : (mkS l).cps.size = l.length := by simp [mkS]
  unfold strIterType
  split
  · have W := Walks.strAscii (prog := prog) (w := w) hA h.objs.size (mkS l) t
    rw [e, hz] at W
    exact comp_push F N rfl W ⟨_, Heap.get?_push_size _ rfl, rfl, rfl⟩ (fun b hb => nomatch hb)
  · have W := Walks.strWide (prog := prog) (w := w) hA h.objs.size (mkS l) t
    rw [e, hz] at W
    exact comp_push F N rfl W ⟨_, Heap.get?_push_size _ rfl, rfl, rfl⟩ (fun b hb => nomatch hb)
/-- a range object, then its iterator -/
theorem wk_range {r : Addr} {b c : Int} {n : Nat} {t1 t2 t3 : Tok} (hA : A.handled = none) (hr : IsRange h r 0 b c t1 t2 t3) (hsm : Builtin.Range.small 0 b c = true) (hn : Builtin.Range.rangeSize 0 b c = (n : Int)) (F : Fr h₀ L h m) (N : News h₀ L h news) :
    wpAny (model prog w) A (pyIter (.ref r)) (fun it s₂ => CompAt w A s₀ h₀ L m news n (fun i v => ∃ t, v = .int (i * c) t) it s₂) E (S s₀ h k) := by
  refine wpAny_pyIter_range (s := S s₀ h k) hr hsm ?_
  have W := Walks.range (prog := prog) (w := w) hA h.objs.size 0 c n
  have e : (fun (i : Nat) (v : Value) => ∃ t, v = .int (0 + i * c) t) = fun i v => ∃ t, v = .int (i * c) t := by funext i v; simp
  rw [e] at W
  refine comp_push F N rfl W ?_ (fun b hb => nomatch hb)
  rw [hn]
  have : IsRangeIter (h.push { cls := .type "range_iterator", data := .fields #[rawInt 0, rawInt (n : Int), rawInt c] }) h.objs.size 0 (n : Int) c := Heap.get?_push_size _ rfl
  have e0 : (0 : Int) + ((0 : Nat) : Int) * c = 0 := by simp
  have e1 : (n : Int) - ((0 : Nat) : Int) = n := by simp
  rw [e0, e1]; exact this
theorem o_range3 {b c : Int} {t1 t2 t3 : Tok} {Q : Value → Shared → Prop} (hc : 0 < c) (hc2 : c.natAbs < 1073741824) (F : Fr h₀ L h m) (N : News h₀ L h news)
    (hq : ∀ r h' k', IsRange h' r 0 b c t1 t2 t3 → Fr h₀ L h' m → News h₀ L h' news → Q (.ref r) (S s₀ h' k')) : wpAny (model prog w) A (call (.type "range") [.int 0 t1, .int b t2, .int c t3]) Q E (S s₀ h k) := by
  refine call_range_3 (s := S s₀ h k) (by (first | lia | omega)) ?_ (Or.inl (PyProof.noPylong_small hc2))
  exact hq _ _ _ (Heap.get?_push_size _ rfl) (F.push _) fun p hp => ⟨Heap.get?_push_of_some _ (N p hp).1, (N p hp).2⟩
theorem o_range1 {b : Int} {t1 : Tok} {Q : Value → Shared → Prop} (F : Fr h₀ L h m) (N : News h₀ L h news)
    (hq : ∀ r h' k' t2 t3, IsRange h' r 0 b 1 t2 t1 t3 → Fr h₀ L h' m → News h₀ L h' news → Q (.ref r) (S s₀ h' k')) : wpAny (model prog w) A (call (.type "range") [.int b t1]) Q E (S s₀ h k) := by
  refine call_range_1 (s := S s₀ h k) ?_
  exact hq _ _ _ _ _ (Heap.get?_push_size _ rfl) (F.push _) fun p hp => ⟨Heap.get?_push_of_some _ (N p hp).1, (N p hp).2⟩
/-! ### names within a comprehension -/
variable {scl : Scope} {ccl : List (Str × Addr)} {C : Addr} {m₃ : Str → Option Value} {v : Value} {d : Ad} {mg mb : Str → Option Value}
theorem kc_it {Q : Value → Shared → Prop} (hn : h.Ns C m₃) (hv : m₃ x = some v) (hq : Q v (S s₀ h k)) (hx : (compEnvC scl ccl C (envX cn cs L a ccd cl)).kindOf x = some .local) (hk : (compEnvC scl ccl C (envX cn cs L a ccd cl)).scope.kind = .function) (hd : (x == ("__debug__" : Str)) = false) :
    wpAny (model prog w) A (eval (.Name x pos) (compEnvC scl ccl C (envX cn cs L a ccd cl))) Q E (S s₀ h k) := wpAny_Name (wpAny_loadName_local hk hx hn hv hq) hd
theorem kc_cell {Q : Value → Shared → Prop} {c : Addr} {o : Obj} (N : News h₀ L h news) (hm : (c, o) ∈ news) (ho : o.data = .cell (some v)) (hq : Q v (S s₀ h k)) (hc : ccl.lookup x = some c) (hx : (compEnvC scl ccl C (envX cn cs L a ccd cl)).kindOf x = some .cell) (hk : (compEnvC scl ccl C (envX cn cs L a ccd cl)).scope.kind = .function) (hd : (x == ("__debug__" : Str)) = false) :
    wpAny (model prog w) A (eval (.Name x pos) (compEnvC scl ccl C (envX cn cs L a ccd cl))) Q E (S s₀ h k) := wpAny_Name (wpAny_loadName_cell hk hx hc ⟨o, (N _ hm).1, ho⟩ hq) hd
theorem kc_glob {Q : Value → Shared → Prop} (G : Glb d mg mb h₀) (F : Fr h₀ L h m) (hv : mg x = some v) (hq : Q v (S s₀ h k)) (hx : (compEnvC scl ccl C (envX cn cs L a ccd cl)).kindOf x = some .globalImplicit) (hk : (compEnvC scl ccl C (envX cn cs L a ccd cl)).scope.kind = .function) (hd : (x == ("__debug__" : Str)) = false) :
    wpAny (model prog w) A (eval (.Name x pos) (compEnvC scl ccl C (envX cn cs L a ccd cl))) Q E (S s₀ h k) :=
  Calls.Name_function_global hk hx (Calls.loadGlobal_global (env := compEnvC scl ccl C (envX cn cs L a ccd cl)) (s := S s₀ h k) (G.g.keeps F.keep) hv hq) hd
theorem kc_bi {Q : Value → Shared → Prop} (G : Glb d mg mb h₀) (F : Fr h₀ L h m) (hm : x ∈ biNames) (hv : bootBuiltins x = some v) (hq : Q v (S s₀ h k)) (hn : x ≠ "__name__") (hx : (compEnvC scl ccl C (envX cn cs L a ccd cl)).kindOf x = some .globalImplicit) (hk : (compEnvC scl ccl C (envX cn cs L a ccd cl)).scope.kind = .function) (hd : (x == ("__debug__" : Str)) = false) :
    wpAny (model prog w) A (eval (.Name x pos) (compEnvC scl ccl C (envX cn cs L a ccd cl))) Q E (S s₀ h k) :=
  Calls.Name_function_global hk hx (Calls.loadGlobal_builtin (env := compEnvC scl ccl C (envX cn cs L a ccd cl)) (s := S s₀ h k) (G.g.keeps F.keep) (G.free x hm) (G.b.keeps F.keep) ((G.bi x hn).trans hv) hq) hd
/-- a cell of the function's own -/
theorem k_cell {Q : Value → Shared → Prop} {c : Addr} {o : Obj} (N : News h₀ L h news) (hm : (c, o) ∈ news) (ho : o.data = .cell (some v)) (hq : Q v (S s₀ h k)) (hc : cl.lookup x = some c) (hx : (envX cn cs L a ccd cl).kindOf x = some .cell) (hk : cs.kind = .function) (hd : (x == ("__debug__" : Str)) = false) :
    wpAny (model prog w) A (eval (.Name x pos) (envX cn cs L a ccd cl)) Q E (S s₀ h k) := wpAny_Name (wpAny_loadName_cell hk hx hc ⟨o, (N _ hm).1, ho⟩ hq) hd
theorem k_storec {Q : Unit → Shared → Prop} {c : Addr} {o : Obj} {v₀ : Option Value} {pre post : List (Addr × Obj)} (F : Fr h₀ L h m) (N : News h₀ L h (pre ++ (c, o) :: post)) (ho : o.data = .cell v₀) (h1 : ∀ p ∈ pre, p.1 ≠ c) (h2 : ∀ p ∈ post, p.1 ≠ c)
    (hq : ∀ h' o', o'.data = .cell (some v) → Fr h₀ L h' m → News h₀ L h' (pre ++ (c, o') :: post) → Q () (S s₀ h' k)) (hc : cl.lookup x = some c) (hx : (envX cn cs L a ccd cl).kindOf x = some .cell) (hk : cs.kind = .function) :
    wpAny (model prog w) A (storeName (envX cn cs L a ccd cl) x v) Q E (S s₀ h k) := by
  have hmem := N (c, o) (List.mem_append_right _ (.head _))
  refine wpAny_storeName_cell hk hx hc ⟨o, hmem.1, ho⟩ fun h' hv hs => ?_
  obtain ⟨o', ho', hd'⟩ := hv
  replace hs : Heap.SameBut c h h' := hs
  refine hq h' o' hd' ⟨F.ns.sameBut hs (Ne.symm hmem.2.1), fun b ob e => (hs.2 b (fun q => ?_)).trans (F.keep b ob e), F.above⟩ (N.setAt h1 h2 hs ho')
  rw [q, hmem.2.2] at e; cases e
end
end
section
open PySem PySem.W PyProof.Rows PySem.Calls PySem.SeqAt
section
variable {w : World} {A : Around} {E : Value → Shared → Prop} {s₀ : Shared} {h h₀ : Heap} {k : Nat} {cn : Str} {cs : Scope} {L a : Addr} {ccd : Value} {cl : List (Str × Addr)} {m : Str → Option Value} {news : List (Addr × Obj)} {pos px py spos tpos : Pos} {x y : Str} {vals : List (Str × Value)} {t u : Tok} {D D2 : Addr} {vs ws : List Value} {env : Env}
theorem k_and_isL {z : Nat} (N : News h₀ L h news) (hm : (D, listOf vs.toArray z) ∈ news) : h.IsList D vs.toArray := ⟨_, (N _ hm).1, rfl, z, rfl⟩
theorem o_ladd {Q : Value → Shared → Prop} (F : Fr h₀ L h m) (N : News h₀ L h news) (h1 : h.IsList D vs.toArray) (h2 : h.IsList D2 ws.toArray) (hsz : vs.length + ws.length ≤ 10000)
    (hq : ∀ R h', Fr h₀ L h' m → News h₀ L h' ((R, listOf (vs ++ ws).toArray 0) :: news) → Q (.ref R) (S s₀ h' k)) : wpAny (model prog w) A (binaryOp .Add (.ref D) (.ref D2)) Q E (S s₀ h k) :=
  add_lists (s := S s₀ h k) F N h1 h2 (fun h' F' N' => hq _ h' F' N') (by unfold sizeLine; (first | lia | omega))
theorem pick_run {x y : Nat} (hy : y ≤ vs.length) (hxy : x ≤ y) : slicePick vs.toArray (some (x : Int)) (some (y : Int)) none = ((vs.drop x).take (y - x)).toArray := by
  have := slicePick_run vs.toArray x y (by simpa using hy) hxy
  simpa using this
theorem pick_from {x : Nat} : slicePick vs.toArray (some (x : Int)) none none = (vs.drop x).toArray := by
  have := slicePick_from' vs.toArray x
  simpa using this
theorem pick_upto {y : Nat} : slicePick vs.toArray none (some (y : Int)) none = (vs.take y).toArray := by
  have := slicePick_upto' vs.toArray y
  simpa using this
/-- lists of like texts -/
theorem o_lne_strs {ls ls2 : List (Str × Tok)} {Q : Value → Shared → Prop} (h1 : h.IsList D (strValues ls).toArray) (h2 : h.IsList D2 (strValues ls2).toArray) (e : ls.map (·.1) = ls2.map (·.1)) (hu : A.units < cLine) (hq : Q (.bool false) (S s₀ h k)) :
    wpAny (model prog w) A (compareOp .NotEq (.ref D) (.ref D2)) Q E (S s₀ h k) := by
  have hlen : ls.length = ls2.length := by simpa using congrArg List.length e
  have hh := RcNeAt.lists (A := A) (s := S s₀ h k) (e := fun _ => true) h1 h2 (by simp [strValues, hlen]) hu (fun j j1 j2 => ?_)
  · refine hh prog w E Q ?_
    have : ((List.range (strValues ls).toArray.size).all fun _ => true) = true := by simp
    rw [this]; exact hq
  · have j1' : j < ls.length := by simpa [strValues] using j1
    have j2' : j < ls2.length := by simpa [strValues] using j2
    have e1 : (strValues ls).toArray[j] = .str ls[j].1 ls[j].2 := by simp [strValues]
    have e2 : (strValues ls2).toArray[j] = .str ls2[j].1 ls2[j].2 := by simp [strValues]
    have e3 : ls[j].1 = ls2[j].1 := by
      have := congrArg (fun z => z[j]?) e
      simp only [List.getElem?_map, List.getElem?_eq_getElem j1', List.getElem?_eq_getElem j2', Option.map_some] at this
      exact Option.some.inj this
    rw [e1, e2]
    have := EqAt.str_str (A := A.in1) (s := S s₀ h k) ls[j].1 ls[j].2 ls2[j].1 ls2[j].2
    rw [e3] at this ⊢
    simpa using this
/-- a, b = t -/
theorem k_unpack2 {xa xb : Str} {pa pb : Pos} {kk : Nat} {value : PySem.Expr} {va vb : Value} {Q : Flow → Shared → Prop} (hh : A.handled = none) (F : Fr h₀ L h (look vals)) (N : News h₀ L h news) (hT : h.IsTuple D #[va, vb])
    (hq : wpAny (model prog w) A (eval value (envX cn cs L a ccd cl)) (fun v s₁ => s₁ = S s₀ h k ∧ v = .ref D) E (S s₀ h k))
    (hd : ∀ h' k', Fr h₀ L h' (look ((xb, vb) :: (xa, va) :: vals)) → News h₀ L h' news → k ≤ k' → Q .next (S s₀ h' k'))
    (hxa : (envX cn cs L a ccd cl).kindOf xa = some .local) (hxb : (envX cn cs L a ccd cl).kindOf xb = some .local) (hk : cs.kind = .function)
    (hs : swapsWithSole [.Tuple [.Name xa pa, .Name xb pb] kk tpos] value pos.line (envX cn cs L a ccd cl) = pure false := by rfl)
    (hw : swappedStores [.Tuple [.Name xa pa, .Name xb pb] kk tpos] value (envX cn cs L a ccd cl) = pure none := by rfl) :
    wpAny (model prog w) A (exec (.Assign [.Tuple [.Name xa pa, .Name xb pb] kk tpos] value pos) (envX cn cs L a ccd cl)) Q E (S s₀ h k) := by
  refine Assign_Tuple (wpAny_mono hq (fun v s₁ x => ?_) fun _ _ x => x) hs hw
  obtain ⟨rfl, rfl⟩ := x
  refine wpAny_assign_Tuple hh hT rfl rfl fun h₂ x₂ => ?_
  replace x₂ : Heap.ExtBut h.objs.size h h₂ := x₂
  have up : ∀ b o, h.get? b = some o → h₂.get? b = some o := fun b o q => x₂ b o (Nat.ne_of_lt (Heap.lt_size q)) q
  have F₂ : Fr h₀ L h₂ (look vals) := Ext.fr up F
  have N₂ : News h₀ L h₂ news := Ext.news up N
  show wpAny _ _ (do holding [_] (assign (.Name _ _) _ _); do holding [] (assign (.Name _ _) _ _); pure ()) _ _ (S s₀ h₂ k)
  refine wpAny_bind (wpAny_holding (wpAny_assign_Name ?_))
  refine storeX_L (s := S s₀ h₂ k) F₂ N₂ (fun h₃ F₃ N₃ => ?_) hk hxa
  refine wpAny_bind (wpAny_holding (wpAny_assign_Name ?_))
  refine storeX_L (s := S s₀ h₃ (k + 1)) F₃ N₃ (fun h₄ F₄ N₄ => wpAny_pure ?_) hk hxb
  exact hd h₄ _ F₄ N₄ (by show k ≤ k + 1 + 1; (first | lia | omega))
end
end
section
open PySem PySem.W PyProof.Rows PySem.Calls PySem.SeqAt
/-- as ForAt; what is gone through may stand in the ledger -/
noncomputable def ForAt2 (pg : Program) (w : World) (A : Around) (s₀ : Shared) (h₀ : Heap) (env : Env) (L : Addr) (x : Str) (body : List Stmt) (Q : Flow → Shared → Prop) (it : Value) (s₂ : Shared) : Prop :=
  ∃ (I : Addr) (fp wr : List Addr) (n : Nat) (P : Nat → Value → Prop) (St : Nat → Heap → Prop) (vals : List (Str × Value)) (news : List (Addr × Obj)) (J : Nat → List (Str × Value) → List (Addr × Obj) → Prop) (h₂ : Heap) (k₂ : Nat),
    it = .ref I ∧ s₂ = S s₀ h₂ k₂ ∧ Walks pg w A I fp wr n P St ∧ L ∉ fp ∧ (∀ b ∈ wr, h₀.get? b = none) ∧ (∀ p ∈ news, p.1 ∉ wr) ∧ St 0 h₂ ∧ Fr h₀ L h₂ (look vals) ∧ News h₀ L h₂ news ∧ J 0 vals news ∧
    (∀ i v vals₁ news₁ own h₁ k₁, i < n → P i v → J i vals₁ news₁ → news₁.map (·.1) = news.map (·.1) → Fr h₀ L h₁ (look ((x, v) :: vals₁)) → News h₀ L h₁ (own ++ news₁) →
      wpAny (model pg w) A (execs body env) (TurnEnd s₀ h₀ L (news.map (·.1)) own (J (i + 1)) Q) NoE (S s₀ h₁ k₁)) ∧
    ∀ h' k' vals' news', Fr h₀ L h' (look vals') → News h₀ L h' news' → news'.map (·.1) = news.map (·.1) → J n vals' news' → Q .next (S s₀ h' k')
section
variable {pg : Program} {w : World} {A : Around} {s₀ : Shared} {h h₀ : Heap} {k : Nat} {cn : Str} {cs : Scope} {L a : Addr} {ccd : Value} {cl : List (Str × Addr)} {vals : List (Str × Value)} {news : List (Addr × Obj)} {pos px : Pos} {x : Str} {body : List Stmt} {env : Env}
theorem k_for2 {iter : PySem.Expr} {Q : Flow → Shared → Prop} (h₀ : Heap) (hx : (envX cn cs L a ccd cl).kindOf x = some .local) (hk : cs.kind = .function)
    (hq : wpAny (model pg w) A (eval iter (envX cn cs L a ccd cl)) (fun xv s₁ => wpAny (model pg w) A (pyIter xv) (fun it s₂ => ForAt2 pg w A s₀ h₀ (envX cn cs L a ccd cl) L x body Q it s₂) NoE s₁) NoE (S s₀ h k))
    (hs : ∀ x, foldedSetIterable iter (envX cn cs L a ccd cl) x = pure x := by intro _; rfl) :
    wpAny (model pg w) A (exec (.For (.Name x px) iter body [] pos) (envX cn cs L a ccd cl)) Q NoE (S s₀ h k) := by
  refine For_invV h₀ hx (by show (cs.kind == .class || (cs.kind == .module && L != mainGlobals)) = false; rw [hk]; rfl) (wpAny_mono hq (fun xv s₁ x₁ => wpAny_mono x₁ (fun it s₂ x₂ => ?_) fun _ _ x => x) fun _ _ x => x) hs PassesOwn.never
  obtain ⟨I, fp, wr, n, P, St, vals, news, J, h₂, k₂, rfl, rfl, W, hLf, hwr, hnw, hst, F, N, h0, step, done⟩ := x₂
  have nw : ∀ nn : List (Addr × Obj), nn.map (·.1) = news.map (·.1) → ∀ p ∈ nn, p.1 ∉ wr := fun nn e p hp => by
    have : p.1 ∈ news.map (·.1) := e ▸ List.mem_map_of_mem hp
    obtain ⟨q, hq, e'⟩ := List.mem_map.mp this
    exact e' ▸ hnw q hq
  refine ⟨I, fp, wr, n, P, St, look vals, news, fun i m nn => ∃ v', m = look v' ∧ nn.map (·.1) = news.map (·.1) ∧ J i v' nn, rfl, W, hLf, hwr, hnw, hst, F, N, ⟨vals, rfl, rfl, h0⟩, ?_, ?_⟩
  · rintro i v m₁ news₁ s₁ own ⟨h₁, k₁, rfl⟩ hi hP ⟨v₁, rfl, ha, hJ⟩ _ hof _ _ _ F₁ N₁
    refine wpAny_mono (step i v v₁ news₁ own h₁ k₁ hi hP hJ ha F₁ N₁) (fun f s₃ x₃ => ?_) fun _ _ x => x
    have fin : (∃ h' k' vals' news', s₃ = S s₀ h' k' ∧ Fr h₀ L h' (look vals') ∧ News h₀ L h' (own ++ news') ∧ news'.map (·.1) = news.map (·.1) ∧ J (i + 1) vals' news') →
        LoopStepU h₀ L wr own (fun m nn => ∃ v', m = look v' ∧ nn.map (·.1) = news.map (·.1) ∧ J (i + 1) v' nn) { S s₀ h₂ k₂ with heap := h₁, toks := k₁ } .next s₃ := by
      rintro ⟨h', k', v', n', rfl, F', N', ha', hJ'⟩
      exact ⟨rfl, h', k', look v', n', rfl, F', N', fun p hp hw => nw n' ha' p hp hw, v', rfl, ha', hJ'⟩
    cases f with
    | ret v => exact x₃
    | brk => exact x₃
    | next => exact fin x₃
    | cont => exact fin x₃
  · rintro h' tk m' news' F' N' _ ⟨v', rfl, ha, hJ⟩
    exact done h' tk v' news' F' N' ha hJ
/-- a for over range(b) -/
theorem for_range {r : Addr} {b : Int} {n : Nat} {t1 t2 t3 : Tok} {Q : Flow → Shared → Prop} (hA : A.handled = none) (hr : IsRange h r 0 b 1 t1 t2 t3) (hsm : Builtin.Range.small 0 b 1 = true) (hn : Builtin.Range.rangeSize 0 b 1 = (n : Int))
    (F : Fr h₀ L h (look vals)) (N : News h₀ L h news) (J : Nat → List (Str × Value) → List (Addr × Obj) → Prop) (h0 : J 0 vals news)
    (turn : ∀ i v vals₁ news₁ own h₁ k₁, i < n → (∃ t, v = .int (i : Int) t) → J i vals₁ news₁ → news₁.map (·.1) = news.map (·.1) → Fr h₀ L h₁ (look ((x, v) :: vals₁)) → News h₀ L h₁ (own ++ news₁) →
      wpAny (model pg w) A (execs body env) (TurnEnd s₀ h₀ L (news.map (·.1)) own (J (i + 1)) Q) NoE (S s₀ h₁ k₁))
    (done : ∀ h' k' vals' news', Fr h₀ L h' (look vals') → News h₀ L h' news' → news'.map (·.1) = news.map (·.1) → J n vals' news' → Q .next (S s₀ h' k')) :
    wpAny (model pg w) A (pyIter (.ref r)) (fun it s₂ => ForAt2 pg w A s₀ h₀ env L x body Q it s₂) NoE (S s₀ h k) := by
  refine wpAny_pyIter_range (s := S s₀ h k) hr hsm ?_
  have W := Walks.range (prog := pg) (w := w) hA h.objs.size 0 1 n
  have e : (fun (i : Nat) (v : Value) => ∃ t, v = .int (0 + i * 1) t) = fun i v => ∃ t, v = .int (i : Int) t := by funext i v; simp
  rw [e] at W
  refine ⟨h.objs.size, _, _, n, _, _, vals, news, J, h.push { cls := .type "range_iterator", data := .fields #[rawInt 0, rawInt (n : Int), rawInt 1] }, k, rfl, by rw [hn]; rfl, W, ?_, ?_, ?_, ?_, F.push _, (fun p hp => ⟨Heap.get?_push_of_some _ (N p hp).1, (N p hp).2⟩), h0, turn, done⟩
  · intro hm; exact absurd F.ns.lt (List.mem_singleton.mp hm ▸ Nat.lt_irrefl _)
  · intro b hb; rw [List.mem_singleton.mp hb]; exact Heap.get?_none_of_le (Nat.le_trans F.above (Nat.le_of_lt F.ns.lt))
  · intro p hp hm; exact absurd (Heap.lt_size (N p hp).1) (List.mem_singleton.mp hm ▸ Nat.lt_irrefl _)
  · have e0 : (0 : Int) + ((0 : Nat) : Int) * 1 = 0 := by simp
    have e1 : (n : Int) - ((0 : Nat) : Int) = n := by simp
    rw [e0, e1]; exact Heap.get?_push_size _ rfl
/-- a for over a list, that may stand in the ledger -/
theorem for_list2 {Q : Flow → Shared → Prop} {l : Addr} {vs : List Value} (hA : A.handled = none) (hl : h.IsList l vs.toArray) (hL : l ≠ L)
    (F : Fr h₀ L h (look vals)) (N : News h₀ L h news) (J : Nat → List (Str × Value) → List (Addr × Obj) → Prop) (h0 : J 0 vals news)
    (turn : ∀ i v vals₁ news₁ own h₁ k₁, vs[i]? = some v → J i vals₁ news₁ → news₁.map (·.1) = news.map (·.1) → Fr h₀ L h₁ (look ((x, v) :: vals₁)) → News h₀ L h₁ (own ++ news₁) →
      wpAny (model pg w) A (execs body env) (TurnEnd s₀ h₀ L (news.map (·.1)) own (J (i + 1)) Q) NoE (S s₀ h₁ k₁))
    (done : ∀ h' k' vals' news', Fr h₀ L h' (look vals') → News h₀ L h' news' → news'.map (·.1) = news.map (·.1) → J vs.length vals' news' → Q .next (S s₀ h' k')) :
    wpAny (model pg w) A (pyIter (.ref l)) (fun it s₂ => ForAt2 pg w A s₀ h₀ env L x body Q it s₂) NoE (S s₀ h k) := by
  obtain ⟨ol, hol, _⟩ := id hl
  have hlt : l < h.objs.size := Heap.lt_size hol
  refine wpAny_pyIter_list (s := S s₀ h k) hl ?_
  have W := Walks.list (prog := pg) (w := w) hA h.objs.size l (Nat.ne_of_lt hlt) vs.toArray
  rw [List.size_toArray] at W
  refine ⟨h.objs.size, _, _, vs.length, _, _, vals, news, J, h.push { cls := .type "list_iterator", data := .fields #[.ref l, .int 0 0] }, k, rfl, rfl, W, ?_, ?_, ?_, ⟨⟨_, Heap.get?_push_size _ rfl, rfl, rfl⟩, hl.at fun o e => Heap.get?_push_of_some _ e⟩, F.push _,
    (fun p hp => ⟨Heap.get?_push_of_some _ (N p hp).1, (N p hp).2⟩), h0, ?_, done⟩
  · intro hm
    rcases List.mem_cons.mp hm with e | hm
    · exact absurd F.ns.lt (e ▸ Nat.lt_irrefl _)
    · exact hL (List.mem_singleton.mp hm).symm
  · intro b hb; rw [List.mem_singleton.mp hb]; exact Heap.get?_none_of_le (Nat.le_trans F.above (Nat.le_of_lt F.ns.lt))
  · intro p hp hm; exact absurd (Heap.lt_size (N p hp).1) (List.mem_singleton.mp hm ▸ Nat.lt_irrefl _)
  · intro i v vals₁ news₁ own h₁ k₁ _ hP
    exact turn i v vals₁ news₁ own h₁ k₁ (by simpa using hP)
end
end
section
open PySem PySem.W PyProof.Rows PySem.Calls PySem.SeqAt
section
variable {w : World} {A : Around} {E : Value → Shared → Prop} {s₀ : Shared} {h h₃ : Heap} {k : Nat} {D : Addr} {vs : List Value} {env : Env} {l : T} {t : Tok}
theorem ext_push {o : Obj} (x : Ext h₃ h) : Ext h₃ (h.push o) := fun b q e => Heap.get?_push_of_some _ (x b q e)
theorem keptExt : KeptH (Ext h₃) := fun _ _ x => ext_push x
/-- a slice of a text, all kept -/
theorem o_slcX {lo hi : Option PySem.Expr} {p : Pos} {value : PySem.Expr} {Q : Value → Shared → Prop} (hl : l.length ≤ 10000)
    (hq : wpAny (model prog w) A (evalPart lo env) (fun lv s₁ => wpAny (model prog w) A (evalPart hi env) (fun uv s₂ => ∃ k' y, s₂ = S s₀ h k' ∧
      (∃ i ui, lv = .int i ui ∧ ∃ j uj, uv = .int j uj ∧ Txt.slice (mkS l) (some i) (some j) = mkS y) ∧
      (∀ t h'' k'', Ext h h'' → Q (.str (mkS y) t) (S s₀ h'' k''))) E s₁) E (S s₀ h k))
    (hs : ∀ i, subscripted (.Slice lo hi none p) false (.str (mkS l) t) (.ref i) = operate [.ref i, .str (mkS l) t] (getItem (.str (mkS l) t) (.ref i)) := by intro _; with_unfolding_all rfl)
    (ht : ∀ r, letTemporaryGo value (.str (mkS l) t) r = pure () := by intro _; with_unfolding_all rfl) :
    wpAny (model prog w) A (eval (.Slice lo hi none p) env) (fun i s₂ => wpAny (model prog w) A (subscriptTail value (.Slice lo hi none p) (.str (mkS l) t) i) Q E s₂) E (S s₀ h k) := by
  have hsz : (mkS l).length ≤ sizeLine := by rw [mkS_len]; unfold sizeLine; (first | lia | omega)
  refine wpAny_Slice (wpAny_mono hq (fun lv s₁ x => wpAny_mono x (fun uv s₂ x => evalPart_none_step ?_) fun _ _ x => x) fun _ _ x => x)
  obtain ⟨k', y, rfl, ⟨i, ui, rfl, j, uj, rfl, e⟩, hd⟩ := x
  exact tail_of_ItemOn (SBH.sliceItem_ss (s := S s₀ h k') (keptExt (h₃ := h)) (Ext.refl _) (fun h'' t' k'' x => by rw [e]; exact hd t' h'' k'' x) hsz) (hs _) ht
theorem o_lsliceX {lo hi : Option PySem.Expr} {p : Pos} {value : PySem.Expr} {Q : Value → Shared → Prop} (hl : h.IsList D vs.toArray) (hsz : vs.length ≤ 10000)
    (hq : wpAny (model prog w) A (evalPart lo env) (fun lv s₁ => wpAny (model prog w) A (evalPart hi env) (fun uv s₂ => ∃ k' lo' hi' ys, s₂ = S s₀ h k' ∧ IsPart lv lo' ∧ IsPart uv hi' ∧ slicePick vs.toArray lo' hi' none = List.toArray ys ∧
      (∀ R h'' k'', Ext h h'' → h''.IsList R ys.toArray → Q (.ref R) (S s₀ h'' k''))) E s₁) E (S s₀ h k))
    (hs : ∀ i, subscripted (.Slice lo hi none p) false (.ref D) (.ref i) = operate [.ref i, .ref D] (getItem (.ref D) (.ref i)) := by intro _; with_unfolding_all rfl)
    (ht : ∀ r, letTemporaryGo value (.ref D) r = pure () := by intro _; with_unfolding_all rfl) :
    wpAny (model prog w) A (eval (.Slice lo hi none p) env) (fun i s₂ => wpAny (model prog w) A (subscriptTail value (.Slice lo hi none p) (.ref D) i) Q E s₂) E (S s₀ h k) := by
  refine wpAny_Slice (wpAny_mono hq (fun lv s₁ x => wpAny_mono x (fun uv s₂ x => evalPart_none_step ?_) fun _ _ x => x) fun _ _ x => x)
  obtain ⟨k', lo', hi', ys, rfl, p1, p2, e, hd⟩ := x
  refine slice_listK (s := S s₀ h k') hl p1 p2 ?_ (hs _) ht (by unfold sizeLine; simp; (first | lia | omega))
  rw [e]
  have hz : (h.push { cls := .type "slice", data := .fields #[lv, uv, .none] }).objs.size = h.objs.size + 1 := Heap.size_push ..
  have hg : ((h.push { cls := .type "slice", data := .fields #[lv, uv, .none] }).push { cls := .type "list", data := .seq ys.toArray }).get? (h.objs.size + 1) = some { cls := .type "list", data := .seq ys.toArray } := by
    rw [← hz]; exact Heap.get?_push_size _ rfl
  exact hd _ _ k' (ext_push (ext_push (Ext.refl _))) ⟨_, hg, rfl, _, rfl⟩
end
section
variable {pg : Program} {w : World} {A : Around} {E : Value → Shared → Prop} {s₀ : Shared} {h : Heap} {k kk : Nat} {env : Env} {rest : List Stmt} {t u : Tok} {l r : T} {v : Value}
/-- a statement, with the count of tokens -/
theorem k_consT {st : Stmt} {Q : Flow → Shared → Prop} (hq : wpAny (model pg w) A (exec st env) (KSeqT pg w A k rest env Q E) E (S s₀ h k)) : wpAny (model pg w) A (execs (st :: rest) env) Q E (S s₀ h k) :=
  k_cons (wpAny_with_toks (n := k) (Nat.le_refl _) (wpAny_mono hq (fun _ _ x => x) fun _ _ x => fun _ => x))
theorem k_nextT {Q : Flow → Shared → Prop} (hq : kk ≤ k → wpAny (model pg w) A (execs rest env) Q E (S s₀ h k)) : kk ≤ (S s₀ h k).toks → Seq pg w A rest env Q E .next (S s₀ h k) := fun x => hq x
theorem k_retT {Q : Flow → Shared → Prop} (hq : Q (.ret v) (S s₀ h k)) : kk ≤ (S s₀ h k).toks → Seq pg w A rest env Q E (.ret v) (S s₀ h k) := fun _ => hq
theorem k_strT {x : Str} {kd : Nat} {pos : Pos} {Q : Value → Shared → Prop} (hx : x = mkS l) (hq : ∀ t k', k ≤ k' → Q (.str (mkS l) t) (S s₀ h k')) : wpAny (model pg w) A (eval (.Constant (.str x) kd pos) env) Q E (S s₀ h k) := by
  refine wpAny_with_toks (n := k) (Nat.le_refl _) ?_
  subst hx; exact wpAny_Constant_str (s := S s₀ h k) fun hle => hq _ _ hle
/-- a new text has a new token -/
theorem o_catT {Q : Value → Shared → Prop} (hl : l ≠ []) (hr : r ≠ []) (hsz : l.length + r.length ≤ 10000) (hq : Q (.str (mkS (l ++ r)) k) (S s₀ h (k + 1))) : wpAny (model pg w) A (binaryOp .Add (.str (mkS l) t) (.str (mkS r) u)) Q E (S s₀ h k) := by
  refine P.add_str ?_
  have h1 : ((mkS l).length == 0) = false := by rw [mkS_len]; cases l with | nil => exact absurd rfl hl | cons => rfl
  have h2 : ((mkS r).length == 0) = false := by rw [mkS_len]; cases r with | nil => exact absurd rfl hr | cons => rfl
  rw [if_neg (by rw [h1]; decide), if_neg (by rw [h2]; decide)]
  refine ⟨?_, ?_⟩
  · rw [Str.length_append, mkS_len, mkS_len]; unfold sizeLine; (first | lia | omega)
  · rw [mkS_append]; exact hq
end
/-- the place is within -/
theorem Walks.lt {pg : Program} {w : World} {A : Around} {I : Addr} {fp wr : List Addr} {n : Nat} {P : Nat → Value → Prop} {St : Nat → Heap → Prop} (W : Walks pg w A I fp wr n P St) : Walks pg w A I fp wr n (fun i v => i < n ∧ P i v) St where
  sub := W.sub
  frame := W.frame
  item := fun i s Q E hi st hQ => W.item i s Q E hi st fun v h' tk hP => hQ v h' tk ⟨hi, hP⟩
  done := W.done
  self := W.self
theorem CompAt.lt {w : World} {A : Around} {s₀ : Shared} {h₀ : Heap} {L : Addr} {m : Str → Option Value} {news : List (Addr × Obj)} {n : Nat} {P : Nat → Value → Prop} {it : Value} {s₂ : Shared} (x : CompAt w A s₀ h₀ L m news n P it s₂) : CompAt w A s₀ h₀ L m news n (fun i v => i < n ∧ P i v) it s₂ := by
  obtain ⟨I, fp, wr, St, h₂, k₂, a, b, W, r⟩ := x
  exact ⟨⟨I, fp, wr, St, h₂, k₂, a, b, Walks.lt W, r⟩⟩
end
section
open PySem PySem.W PyProof.Rows PySem.Calls PySem.SeqAt
section
variable {w : World} {A : Around} {E : Value → Shared → Prop} {s₀ : Shared} {h h₀ : Heap} {k : Nat} {D L : Addr} {vs : List Value} {env : Env} {m : Str → Option Value} {news : List (Addr × Obj)}
/-- a slice of a list; the parts may grow the heap -/
theorem o_lslice2 {lo hi : Option PySem.Expr} {p : Pos} {value : PySem.Expr} {Q : Value → Shared → Prop} (_F : Fr h₀ L h m) (_N : News h₀ L h news) (hsz : vs.length ≤ 10000)
    (hq : wpAny (model prog w) A (evalPart lo env) (fun lv s₁ => wpAny (model prog w) A (evalPart hi env) (fun uv s₂ => ∃ h' k' lo' hi' ys, s₂ = S s₀ h' k' ∧ Fr h₀ L h' m ∧ News h₀ L h' news ∧ h'.IsList D vs.toArray ∧ IsPart lv lo' ∧ IsPart uv hi' ∧ slicePick vs.toArray lo' hi' none = List.toArray ys ∧
      (∀ R h'' k'', Fr h₀ L h'' m → News h₀ L h'' ((R, listOf ys.toArray 0) :: news) → Q (.ref R) (S s₀ h'' k''))) E s₁) E (S s₀ h k))
    (hs : ∀ i, subscripted (.Slice lo hi none p) false (.ref D) (.ref i) = operate [.ref i, .ref D] (getItem (.ref D) (.ref i)) := by intro _; with_unfolding_all rfl) :
    wpAny (model prog w) A (eval (.Slice lo hi none p) env) (fun i s₂ => wpAny (model prog w) A (subscriptTail value (.Slice lo hi none p) (.ref D) i) Q E s₂) E (S s₀ h k) := by
  refine wpAny_Slice (wpAny_mono hq (fun lv s₁ x => wpAny_mono x (fun uv s₂ x => evalPart_none_step ?_) fun _ _ x => x) fun _ _ x => x)
  obtain ⟨h', k', lo', hi', ys, rfl, F, N, hl, p1, p2, e, hd⟩ := x
  refine kba_turn (value' := .Name (Str.ofString "x") default) (fun _ => rfl) ?_
  refine slice_list (s := S s₀ h' k') F N hl p1 p2 (fun h'' F' N' => ?_) (hs _) (fun _ => rfl) (by unfold sizeLine; simp; (first | lia | omega))
  rw [e] at N'
  exact hd _ h'' k' F' N'
end
theorem Walks.imp {pg : Program} {w : World} {A : Around} {I : Addr} {fp wr : List Addr} {n : Nat} {P P' : Nat → Value → Prop} {St : Nat → Heap → Prop} (W : Walks pg w A I fp wr n P St) (hi : ∀ i v, P i v → P' i v) : Walks pg w A I fp wr n P' St where
  sub := W.sub
  frame := W.frame
  item := fun i s Q E hi' st hQ => W.item i s Q E hi' st fun v h' tk hP => hQ v h' tk (hi i v hP)
  done := W.done
  self := W.self
theorem CompAt.imp {w : World} {A : Around} {s₀ : Shared} {h₀ : Heap} {L : Addr} {m : Str → Option Value} {news : List (Addr × Obj)} {n : Nat} {P P' : Nat → Value → Prop} {it : Value} {s₂ : Shared} (x : CompAt w A s₀ h₀ L m news n P it s₂) (hi : ∀ i v, P i v → P' i v) : CompAt w A s₀ h₀ L m news n P' it s₂ := by
  obtain ⟨I, fp, wr, St, h₂, k₂, a, b, W, r⟩ := x
  exact ⟨⟨I, fp, wr, St, h₂, k₂, a, b, Walks.imp W hi, r⟩⟩
end
section
open PySem PySem.W PyProof.Rows PySem.Calls
section
variable {w : World} {A : Around} {E : Value → Shared → Prop} {s₀ : Shared} {h h₀ : Heap} {k : Nat} {cn : Str} {cs : Scope} {L a : Addr} {ccd : Value} {cl : List (Str × Addr)} {m : Str → Option Value} {news : List (Addr × Obj)} {pos px py tp : Pos} {x y : Str} {elt iter : PySem.Expr} {scope : Scope} {cl2 : List (Str × Addr)} {its : List Value} {kk : Nat}
/-- the element, told two names -/
noncomputable def EltOk2 (w : World) (A : Around) (h₀ : Heap) (L : Addr) (m : Str → Option Value) (news : List (Addr × Obj)) (Pv : Nat → Value → Prop) (Fm : Nat → Value → Prop) (env : Env) (scope : Scope) (cl : List (Str × Addr)) (x y : Str) (elt : PySem.Expr) : Prop :=
  ∀ (s₃ : Shared) (C : Addr) (i : Nat) (v : Value) (ti : Tok) (h₃ : Heap) (k₃ : Nat) (m₃ : Str → Option Value) (E' : Value → Shared → Prop), Pv i v → h₃.Ns C m₃ → m₃ x = some (.int i ti) → m₃ y = some v → Fr h₀ L h₃ m → News h₀ L h₃ news →
    wpAny (model prog w) A (eval elt (compEnvC scope cl C env)) (fun z s₄ => Fm i z ∧ ∃ h₄ k₄, s₄ = S s₃ h₄ k₄ ∧ Ext h₃ h₄) E' (S s₃ h₃ k₃)
theorem none_of_fr {b : Addr} (F : Fr h₀ L h m) (hb : h.get? b = none) : h₀.get? b = none := by
  cases q : h₀.get? b with
  | none => rfl
  | some o => rw [F.keep _ _ q] at hb; cases hb
/-- [elt for x, y in enumerate(a list)] -/
theorem k_compP {Q : Value → Shared → Prop} (_F : Fr h₀ L h m) (_N : News h₀ L h news) (hh : A.handled = none) (n : Nat) (Pv : Nat → Value → Prop) (Fm : Nat → Value → Prop) (hn : n ≤ 10000)
    (hclos : closureFor scope (envX cn cs L a ccd cl) = pure cl2) (hcell : ∀ y ∈ scope.names, y.2 ≠ .cell) (hkind : scope.kind = .function)
    (hnames : ∀ y ∈ scope.names, y.2 = .local → scope.names.lookup y.1 = some .local) (hx : scope.names.lookup x = some .local) (hy : scope.names.lookup y = some .local) (hxy : x ≠ y)
    (hs : ∀ x, foldedSetIterable iter (envX cn cs L a ccd cl) x = pure x)
    (hit : wpAny (model prog w) A (eval iter (envX cn cs L a ccd cl)) (fun xv s₁ => ∃ (its : List Value) (e it l : Addr) (h₁ : Heap) (k₁ : Nat), its.length = n ∧ (∀ i v, its[i]? = some v → Pv i v) ∧ xv = .ref e ∧ s₁ = S s₀ h₁ k₁ ∧ e ≠ it ∧ l ≠ e ∧ l ≠ it ∧ IsEnum h₁ e it 0 .none ∧ h₁.IsListIter it l 0 ∧ h₁.IsList l its.toArray ∧ Fr h₀ L h₁ m ∧ News h₀ L h₁ news ∧
      L ≠ e ∧ L ≠ it ∧ h₀.get? e = none ∧ h₀.get? it = none ∧ (∀ p ∈ news, p.1 ≠ e ∧ p.1 ≠ it)) E (S s₀ h k))
    (helt : EltOk2 w A h₀ L m news Pv Fm (envX cn cs L a ccd cl) scope cl2 x y elt)
    (done : ∀ D h' k' (ys : List Value) z, Fr h₀ L h' m → News h₀ L h' ((D, listOf ys.toArray z) :: news) → (∀ p ∈ news, p.1 ≠ D) → ys.length = n → (∀ j v, ys[j]? = some v → Fm j v) → Q (.ref D) (S s₀ h' k')) :
    wpAny (model prog w) A (eval (.ListComp elt [⟨.Tuple [.Name x px, .Name y py] kk tp, iter, [], 0⟩] scope pos) (envX cn cs L a ccd cl)) Q E (S s₀ h k) := by
  rw [eval_ListComp]
  refine wpAny_comprehension_free (use := none) rfl hs hclos hkind hnames (wpAny_mono hit (fun xv s₁ q => ?_) fun _ _ e => e)
  obtain ⟨its, e, it, l, h₁, k₁, rfl, hPv, rfl, rfl, hei, hle, hli, he, hi, hl, F, N, hLe, hLi, he0, hi0, hne⟩ := q
  refine wpAny_pyIter_enum (s := S s₀ h₁ k₁) he ?_
  have W := WalksT.enumerate (prog := prog) (w := w) hh e it l hei hle hli its.toArray
  refine wpAny_newObj_type (wpAny_newFunctionEnv hcell (by intro y hy; simp at hy) (fun h₂ hns₂ hsb₂ => ?_) hkind)
  dsimp only at hns₂ hsb₂ ⊢
  have hsb : Heap.ExtBut (h₁.push { cls := .type "list", dict := none, data := .seq ([] : List Value).toArray }).objs.size (h₁.push { cls := .type "list", dict := none, data := .seq ([] : List Value).toArray }) h₂ := fun b o n q => hsb₂.extBut b o n (Heap.get?_push_of_some _ q)
  generalize hH2 : h₁.push { cls := .type "list", dict := none, data := .seq ([] : List Value).toArray } = H2 at hsb
  have hns : h₂.Ns H2.objs.size fun x => ([] : List (Str × Value)).lookup x := by rw [← hH2]; exact hns₂
  have hC : H2.objs.size = h₁.objs.size + 1 := by rw [← hH2, Heap.size_push]
  have hDC : h₁.objs.size ≠ H2.objs.size := by rw [hC]; exact Nat.ne_of_lt (Nat.lt_succ_self _)
  have below : ∀ b o, h₁.get? b = some o → b ≠ H2.objs.size ∧ b ≠ h₁.objs.size := fun b o q => ⟨by rw [hC]; exact Nat.ne_of_lt (Nat.lt_succ_of_lt (Heap.lt_size q)), Nat.ne_of_lt (Heap.lt_size q)⟩
  have old : ∀ b o, h₁.get? b = some o → h₂.get? b = some o := fun b o q => hsb b o (below b o q).1 (hH2 ▸ Heap.get?_push_of_some _ q)
  have hacc : h₂.get? h₁.objs.size = some (LCg.lst []) := hsb _ _ hDC (hH2 ▸ Heap.get?_push_size _ rfl)
  have nD : h₁.get? h₁.objs.size = none := Heap.get?_none_of_le (Nat.le_refl _)
  have nC : h₁.get? H2.objs.size = none := Heap.get?_none_of_le (by rw [hC]; exact Nat.le_succ _)
  have nD0 := none_of_fr F nD
  have nC0 := none_of_fr F nC
  obtain ⟨C, hCe⟩ : ∃ C, C = H2.objs.size := ⟨_, rfl⟩
  obtain ⟨D, hDe⟩ : ∃ D, D = h₁.objs.size := ⟨_, rfl⟩
  rw [← hCe] at hns nC nC0
  rw [← hCe, ← hDe] at hDC below
  rw [← hDe] at hacc nD nD0
  have hDL : D ≠ L := fun q => by have ⟨o, _, _, q2, _⟩ := F.ns; rw [q, q2] at nD; cases nD
  have hCL : C ≠ L := fun q => by have ⟨o, _, _, q2, _⟩ := F.ns; rw [q, q2] at nC; cases nC
  have hCe' : C ≠ e := fun q => by have q2 : h₁.get? e = some _ := he; rw [← q, nC] at q2; cases q2
  have hDe' : D ≠ e := fun q => by have q2 : h₁.get? e = some _ := he; rw [← q, nD] at q2; cases q2
  have hCi : C ≠ it := fun q => by obtain ⟨_, q2, _⟩ := hi; rw [← q, nC] at q2; cases q2
  have hDi : D ≠ it := fun q => by obtain ⟨_, q2, _⟩ := hi; rw [← q, nD] at q2; cases q2
  have hCl : C ≠ l := fun q => by obtain ⟨_, q2, _⟩ := hl; rw [← q, nC] at q2; cases q2
  have hDl : D ≠ l := fun q => by obtain ⟨_, q2, _⟩ := hl; rw [← q, nD] at q2; cases q2
  have hnCD : ∀ p ∈ news, p.1 ≠ C ∧ p.1 ≠ D := fun p hp => below _ _ (N p hp).1
  have st₂ := W.frame 0 h₁ h₂ ⟨⟨_, he⟩, hi, hl⟩ fun b _ o q => old b o q
  have F₂ : Fr h₀ L h₂ m := F.keeps old
  have N₂ : News h₀ L h₂ news := fun p hp => ⟨old _ _ (N p hp).1, (N p hp).2⟩
  clear hsb hsb₂ hns₂ old below
  have loop : codeAny (model prog w) A (.compLoop (.ListComp elt [⟨.Tuple [.Name x px, .Name y py] kk tp, iter, [], 0⟩] scope pos) 0 (.ref e) (.ref D) (compEnvC scope cl2 C (envX cn cs L a ccd cl)))
      (fun r s' => compPost (model prog w) A E none Q (.ref D) C r s') { S s₀ h₁ k₁ with heap := h₂, toks := k₁ + ([] : List (Str × Value)).length } := by
    refine LCp.codeAny_compLoop_pair
      (fun j s' => ∃ h' tk i ys m', s' = S s₀ h' tk ∧ i ≤ its.length ∧ j = its.length + 1 - i ∧ ys.length = i ∧ ((∃ old, IsEnum h' e it i old) ∧ h'.IsListIter it l i ∧ h'.IsList l its.toArray) ∧ Fr h₀ L h' m ∧ h'.Ns C m' ∧ News h₀ L h' news ∧
        h'.get? D = some (LCg.lst ys) ∧ ∀ j v, ys[j]? = some v → Fm j v) ?_ (its.length + 1) ⟨h₂, _, 0, [], _, rfl, Nat.zero_le _, rfl, rfl, st₂, F₂, hns, N₂, hacc, fun j v q => by simp at q⟩
    rintro j s' ⟨h', tk, i, ys, m', rfl, hi', rfl, hyl, hst', F', hn', N', hD', hys⟩
    by_cases hlt : i < its.length
    · refine W.item i (S s₀ h' tk) _ _ (by simpa using hlt) hst' fun T vals h₃ tk₃ hP _ hT hM hk₃ => ?_
      obtain ⟨ti, v, hv, rfl⟩ := hP
      have hv' : its[i]? = some v := by simpa using hv
      have apT := W.apart _ _ _ hM
      refine W.go [.Name x px, .Name y py] kk tp i T _ _ _ hM fun h₄ hst₄ hk₄ => ?_
      have hw : ∀ b, b ≠ e → b ≠ it → b ∉ [e, it] := fun b n1 n2 hm => by simp at hm; rcases hm with q | q; exact n1 q; exact n2 q
      have up₄ : ∀ b o, b ≠ e → b ≠ it → h'.get? b = some o → h₄.get? b = some o := fun b o n1 n2 q => hk₄ b o (hw b n1 n2) (hk₃ b o (hw b n1 n2) q)
      have hT₄ : h₄.IsTuple T #[.int i ti, v] := by obtain ⟨o, q, r⟩ := hT; exact ⟨o, hk₄ _ _ apT q, r⟩
      have hnC₄ : h₄.Ns C m' := by obtain ⟨o, es, ep, q, r⟩ := hn'; exact ⟨o, es, ep, up₄ _ _ hCe' hCi q, r⟩
      refine kcp_assign (env := compEnvC scope cl2 C (envX cn cs L a ccd cl)) (s := S s₀ h₄ tk₃) hh hT₄ (lookup_relabel_local hx) (lookup_relabel_local hy) (by simp [compEnvC, relabel, hkind]) hnC₄ fun h₅ tk₅ hn₅ hs₅ => ?_
      replace hs₅ : ∀ b o, b ≠ C → h₄.get? b = some o → h₅.get? b = some o := hs₅
      have up₅ : ∀ b o, b ≠ e → b ≠ it → b ≠ C → h'.get? b = some o → h₅.get? b = some o := fun b o n1 n2 n3 q => hs₅ b o n3 (up₄ b o n1 n2 q)
      have F₅ : Fr h₀ L h₅ m := by
        obtain ⟨o, es, ep, q, r⟩ := F'.ns
        refine ⟨⟨o, es, ep, up₅ _ _ hLe hLi (Ne.symm hCL) q, r⟩, fun b o q => up₅ b o (fun z => ?_) (fun z => ?_) (fun z => ?_) (F'.keep b o q), F'.above⟩
        · rw [z, he0] at q; cases q
        · rw [z, hi0] at q; cases q
        · rw [z, nC0] at q; cases q
      have N₅ : News h₀ L h₅ news := fun p hp => ⟨up₅ _ _ (hne p hp).1 (hne p hp).2 (hnCD p hp).1 (N' p hp).1, (N' p hp).2⟩
      have hst₅ := W.frame (i + 1) h₄ h₅ hst₄ fun b hb o q => hs₅ b o (fun z => by simp at hb; subst z; rcases hb with q | q | q; exact hCe' q; exact hCi q; exact hCl q) q
      refine wpAny_mono (helt (S s₀ h₄ tk₃) C i v ti h₅ tk₅ _ _ (hPv i v hv') hn₅ (by simp [hxy]) (by simp) F₅ N₅) (fun z s₆ q => ?_) fun _ _ q => q
      obtain ⟨hz, h₆, tk₆, rfl, x₆⟩ := q
      have hD₆ : h₆.get? D = some (LCg.lst ys) := x₆ _ _ (up₅ _ _ hDe' hDi hDC hD')
      refine append_at (s := S (S s₀ h₄ tk₃) h₆ tk₆) (hsz := by show ys.toArray.size ≤ sizeLine; rw [List.size_toArray, hyl]; unfold sizeLine; (first | lia | omega)) hD₆ fun h₇ hs₇ hD₇ => ?_
      replace hs₇ : Heap.SameBut D h₆ h₇ := hs₇
      have up₇ : ∀ b o, b ≠ D → h₅.get? b = some o → h₇.get? b = some o := fun b o n q => (hs₇.2 b n).trans (x₆ b o q)
      refine ⟨its.length + 1 - (i + 1), by (first | lia | omega), h₇, tk₆, i + 1, ys ++ [z], _, rfl, hlt, rfl, by simp [hyl], W.frame _ h₅ _ hst₅ fun b hb o q => up₇ b o (fun z => ?_) q, ?_, hn₅.at' fun o q => up₇ _ _ (Ne.symm hDC) q, fun p hp => ⟨up₇ _ _ (hnCD p hp).2 (N₅ p hp).1, (N₅ p hp).2⟩, hD₇.trans (congrArg some (LCg.lst_snoc ys z)), fun j v q => ?_⟩
      · simp at hb; subst z; rcases hb with q | q | q; exact hDe' q; exact hDi q; exact hDl q
      · obtain ⟨o, es, ep, q, r⟩ := F₅.ns
        exact ⟨⟨o, es, ep, up₇ _ _ (Ne.symm hDL) q, r⟩, fun b o q => up₇ b o (fun z => by rw [z, nD0] at q; cases q) (F₅.keep b o q), F₅.above⟩
      · rcases Nat.lt_or_ge j i with hj | hj
        · rw [List.getElem?_append_left (by (first | lia | omega))] at q; exact hys j v q
        · have hje : j = i := by
            have := (List.getElem?_eq_some_iff.mp q).1
            simp [hyl] at this; (first | lia | omega)
          subst hje
          rw [List.getElem?_append_right (by (first | lia | omega)), hyl, Nat.sub_self] at q
          simp at q
          rw [← q]; exact hz
    · have hin : i = its.length := by (first | lia | omega)
      have hst'' : (∃ old, IsEnum h' e it (its.toArray.size : Nat) old) ∧ h'.IsListIter it l its.toArray.size ∧ h'.IsList l its.toArray := by rw [List.size_toArray, ← hin]; exact hst'
      refine W.done (S s₀ h' tk) _ _ hst'' fun h₃ tk₃ hk₃ => ?_
      have hw : ∀ b, b ≠ e → b ≠ it → b ∉ [e, it] := fun b n1 n2 hm => by simp at hm; rcases hm with q | q; exact n1 q; exact n2 q
      refine ⟨_, hn'.at' fun o q => hk₃ _ o (hw _ hCe' hCi) q, fun h₄ hs₄ => ?_⟩
      replace hs₄ : Heap.SameBut C h₃ h₄ := hs₄
      have up₄ : ∀ b o, b ≠ e → b ≠ it → b ≠ C → h'.get? b = some o → h₄.get? b = some o := fun b o n1 n2 n3 q => (hs₄.2 b n3).trans (hk₃ b o (hw b n1 n2) q)
      refine done D h₄ tk₃ ys ys.length ?_ (fun p hp => ?_) (fun p hp => (hnCD p hp).2) (by (first | lia | omega)) hys
      · obtain ⟨o, es, ep, q, r⟩ := F'.ns
        refine ⟨⟨o, es, ep, up₄ _ _ hLe hLi (Ne.symm hCL) q, r⟩, fun b o q => up₄ b o (fun z => ?_) (fun z => ?_) (fun z => ?_) (F'.keep b o q), F'.above⟩
        · rw [z, he0] at q; cases q
        · rw [z, hi0] at q; cases q
        · rw [z, nC0] at q; cases q
      · rcases List.mem_cons.mp hp with rfl | hp
        · exact ⟨up₄ _ _ hDe' hDi hDC hD', hDL, nD0⟩
        · exact ⟨up₄ _ _ (hne p hp).1 (hne p hp).2 (hnCD p hp).1 (N' p hp).1, (N' p hp).2⟩
  have goal2 := loop
  rw [hCe, ← hH2, hDe] at goal2
  obtain ⟨⟨oldv, q5⟩, _⟩ := st₂
  exact codeAny_compStart_list goal2 (wpAny_pyIter_enum q5 goal2)
end
end
section
open PySem PySem.W PyProof.Rows PySem.Calls
section
variable {w : World} {A : Around} {E : Value → Shared → Prop} {s₀ : Shared} {h h₀ : Heap} {k : Nat} {cn : Str} {cs : Scope} {L a : Addr} {ccd : Value} {cl : List (Str × Addr)} {m : Str → Option Value} {news : List (Addr × Obj)} {pos px : Pos} {x : Str} {elt iter : PySem.Expr} {scope : Scope} {cl2 : List (Str × Addr)}
/-- the element, with its place and the count of tokens -/
noncomputable def EltOkK (w : World) (A : Around) (h₀ : Heap) (L : Addr) (m : Str → Option Value) (news : List (Addr × Obj)) (P : Nat → Value → Prop) (Fm : Nat → Value → Nat → Prop) (env : Env) (scope : Scope) (cl : List (Str × Addr)) (x : Str) (elt : PySem.Expr) (k : Nat) : Prop :=
  ∀ (s₃ : Shared) (C : Addr) (i : Nat) (v : Value) (h₃ : Heap) (k₃ : Nat) (m₃ : Str → Option Value) (E' : Value → Shared → Prop), P i v → h₃.Ns C m₃ → m₃ x = some v → Fr h₀ L h₃ m → News h₀ L h₃ news → k ≤ k₃ →
    wpAny (model prog w) A (eval elt (compEnvC scope cl C env)) (fun z s₄ => ∃ h₄ k₄, s₄ = S s₃ h₄ k₄ ∧ Ext h₃ h₄ ∧ Fm i z k₄) E' (S s₃ h₃ k₃)
/-- the block of a comprehension -/
theorem comp_blockK {RR : Value → Addr → Result → Shared → Prop} {n : Nat} {P : Nat → Value → Prop} {I : Addr} {fp wr : List Addr} {St : Nat → Heap → Prop} {h₁ : Heap} {k₁ : Nat} (Fm : Nat → Value → Nat → Prop) (hmono : ∀ i y k k', k ≤ k' → Fm i y k → Fm i y k') (hn : n ≤ 10000)
    (hcell : ∀ y ∈ scope.names, y.2 ≠ .cell) (hkind : scope.kind = .function) (hx : scope.names.lookup x = some .local) (hkk2 : @LE.le Nat _ k k₁)
    (W : Walks prog w A I fp wr n P St) (hst : St 0 h₁) (hfp : ∀ b ∈ fp, b < h₁.objs.size) (h1 : ∀ b ∈ wr, h₀.get? b = none) (h2 : L ∉ wr) (h3 : ∀ p ∈ news, p.1 ∉ wr) (F : Fr h₀ L h₁ m) (N : News h₀ L h₁ news)
    (helt : EltOkK w A h₀ L m news P Fm (envX cn cs L a ccd cl) scope cl2 x elt k)
    (hRR : ∀ D C h' tk (ys : List Value) m', Fr h₀ L h' m → News h₀ L h' ((D, listOf ys.toArray ys.length) :: news) → (∀ p ∈ news, p.1 ≠ D ∧ p.1 ≠ C) → h'.Ns C m' → C ≠ L → D ≠ L → D ≠ C → h₀.get? C = none → h₀.get? D = none → @LE.le Nat _ k tk → ys.length = n → (∀ j v, ys[j]? = some v → Fm j v tk) → RR (.ref D) C (.ok .next) (S s₀ h' tk)) :
    wpAny (model prog w) A (newList []) (fun acc s₃ => wpAny (model prog w) A (newFunctionEnv scope (envX cn cs L a ccd cl).globals cl2 [] (envX cn cs L a ccd cl).qual none .none (some (envX cn cs L a ccd cl))) (fun cenv s₄ =>
      codeAny (model prog w) A (.compStart (.ListComp elt [⟨.Name x px, iter, [], 0⟩] scope pos) 0 (.ref I) acc { cenv with scope := relabel scope (envX cn cs L a ccd cl) }) (RR acc cenv.locals) s₄) E s₃) E (S s₀ h₁ k₁) := by
  refine wpAny_newObj_type (wpAny_newFunctionEnv hcell (by intro y hy; simp at hy) (fun h₂ hns₂ hsb₂ => ?_) hkind)
  dsimp only at hns₂ hsb₂ ⊢
  have hsb : Heap.ExtBut (h₁.push { cls := .type "list", dict := none, data := .seq ([] : List Value).toArray }).objs.size (h₁.push { cls := .type "list", dict := none, data := .seq ([] : List Value).toArray }) h₂ := fun b o n q => hsb₂.extBut b o n (Heap.get?_push_of_some _ q)
  generalize hH2 : h₁.push { cls := .type "list", dict := none, data := .seq ([] : List Value).toArray } = H2 at hsb
  have hns : h₂.Ns H2.objs.size fun x => ([] : List (Str × Value)).lookup x := by rw [← hH2]; exact hns₂
  have hC : H2.objs.size = h₁.objs.size + 1 := by rw [← hH2, Heap.size_push]
  have hDC : h₁.objs.size ≠ H2.objs.size := by rw [hC]; exact Nat.ne_of_lt (Nat.lt_succ_self _)
  have below : ∀ b, b < h₁.objs.size → b ≠ H2.objs.size ∧ b ≠ h₁.objs.size := fun b hb => ⟨by rw [hC]; exact Nat.ne_of_lt (Nat.lt_succ_of_lt hb), Nat.ne_of_lt hb⟩
  have old : ∀ b o, h₁.get? b = some o → h₂.get? b = some o := fun b o q => hsb b o (below b (Heap.lt_size q)).1 (hH2 ▸ Heap.get?_push_of_some _ q)
  have hacc : h₂.get? h₁.objs.size = some (LCg.lst []) := hsb _ _ hDC (hH2 ▸ Heap.get?_push_size _ rfl)
  have nD0 := none_of_fr F (Heap.get?_none_of_le (Nat.le_refl h₁.objs.size))
  have nC0 := none_of_fr F (Heap.get?_none_of_le (h := h₁) (a := H2.objs.size) (by rw [hC]; exact Nat.le_succ _))
  have hLlt := F.ns.lt
  have hfC : ∀ b ∈ fp, b ≠ H2.objs.size ∧ b ≠ h₁.objs.size := fun b hb => below b (hfp b hb)
  have hnCD : ∀ p ∈ news, p.1 ≠ H2.objs.size ∧ p.1 ≠ h₁.objs.size := fun p hp => below _ (Heap.lt_size (N p hp).1)
  have hLCD := below L hLlt
  have st₂ := W.frame 0 h₁ h₂ hst fun b _ o q => old b o q
  have F₂ : Fr h₀ L h₂ m := F.keeps old
  have N₂ : News h₀ L h₂ news := fun p hp => ⟨old _ _ (N p hp).1, (N p hp).2⟩
  obtain ⟨C, hCe⟩ : ∃ C, C = H2.objs.size := ⟨_, rfl⟩
  obtain ⟨D, hDe⟩ : ∃ D, D = h₁.objs.size := ⟨_, rfl⟩
  rw [← hCe] at hns nC0 hfC hnCD hLCD hDC
  rw [← hDe] at hacc nD0 hfC hnCD hLCD hDC
  have hwC : C ∉ wr := fun hm => (hfC _ (W.sub _ hm)).1 rfl
  have hwD : D ∉ wr := fun hm => (hfC _ (W.sub _ hm)).2 rfl
  clear hsb hsb₂ hns₂ old below
  have loop : codeAny (model prog w) A (.compLoop (.ListComp elt [⟨.Name x px, iter, [], 0⟩] scope pos) 0 (.ref I) (.ref D) (compEnvC scope cl2 C (envX cn cs L a ccd cl)))
      (RR (.ref D) C) { S s₀ h₁ k₁ with heap := h₂, toks := k₁ + ([] : List (Str × Value)).length } := by
    refine codeAny_compLoop_tests
      (fun j s' => ∃ h' tk i ys m', s' = S s₀ h' tk ∧ @LE.le Nat _ k tk ∧ i ≤ n ∧ j = n + 1 - i ∧ ys.length = i ∧ St i h' ∧ Fr h₀ L h' m ∧ h'.Ns C m' ∧ News h₀ L h' news ∧
        h'.get? D = some (LCg.lst ys) ∧ ∀ j v, ys[j]? = some v → Fm j v tk) ?_ (n + 1) ⟨h₂, _, 0, [], _, rfl, Nat.le_add_right_of_le hkk2, Nat.zero_le _, rfl, rfl, st₂, F₂, hns, N₂, hacc, fun j v q => by simp at q⟩
    rintro j s' ⟨h', tk, i, ys, m', rfl, hktk, hi', rfl, hyl, hst', F', hn', N', hD', hys⟩
    by_cases hlt : i < n
    · refine wpAny_mono (wpAny_toks_of (n := tk) (s := S s₀ h' tk) (Nat.le_refl _) (W.item i (S s₀ h' tk) (fun r s' => ∃ v h₂ tk₂, r = some v ∧ s' = S s₀ h₂ tk₂ ∧ P i v ∧ St (i + 1) h₂ ∧ ∀ b o, b ∉ wr → h'.get? b = some o → h₂.get? b = some o) _ hlt hst' fun v h₃ tk₃ hP hst₃ hk₃ => ⟨v, h₃, tk₃, rfl, rfl, hP, hst₃, hk₃⟩)) (fun r s' q => ?_) fun _ _ e => e.2
      obtain ⟨htk3, v, h₃, tk₃, rfl, rfl, hP, hst₃, hk₃⟩ := q
      replace htk3 : @LE.le Nat _ tk tk₃ := htk3
      have hnC₃ : h₃.Ns C m' := by obtain ⟨o, es, ep, q, r⟩ := hn'; exact ⟨o, es, ep, hk₃ _ _ hwC q, r⟩
      refine wpAny_assign_Name (wpAny_storeName_local (s := S s₀ h₃ tk₃) (lookup_relabel_local hx) hnC₃ (fun h₅ hn₅ hs₅ => ?_) (by simp [compEnvC, relabel, hkind]))
      replace hs₅ : Heap.SameBut C h₃ h₅ := hs₅
      refine wpAny_tests_nil ?_
      simp only [if_true]
      have up₅ : ∀ b o, b ∉ wr → b ≠ C → h'.get? b = some o → h₅.get? b = some o := fun b o n1 n2 q => (hs₅.2 b n2).trans (hk₃ b o n1 q)
      have F₅ : Fr h₀ L h₅ m := by
        obtain ⟨o, es, ep, q, r⟩ := F'.ns
        refine ⟨⟨o, es, ep, up₅ _ _ h2 hLCD.1 q, r⟩, fun b o q => up₅ b o (fun z => ?_) (fun z => ?_) (F'.keep b o q), F'.above⟩
        · rw [h1 b z] at q; cases q
        · rw [z, nC0] at q; cases q
      have N₅ : News h₀ L h₅ news := fun p hp => ⟨up₅ _ _ (h3 p hp) (hnCD p hp).1 (N' p hp).1, (N' p hp).2⟩
      have hst₅ := W.frame (i + 1) h₃ h₅ hst₃ fun b hb o q => (hs₅.2 b (hfC b hb).1).trans q
      refine wpAny_mono (wpAny_toks_of (n := tk₃ + 1) (s := S (S s₀ h₃ tk₃) h₅ (tk₃ + 1)) (Nat.le_refl _) (helt (S s₀ h₃ tk₃) C i v h₅ (tk₃ + 1) _ _ hP hn₅ (by simp) F₅ N₅ (Nat.le_succ_of_le (Nat.le_trans hktk htk3)))) (fun z s₆ q => ?_) fun _ _ e => e.2
      obtain ⟨htk6, h₆, tk₆, rfl, x₆, hz⟩ := q
      replace htk6 : @LE.le Nat _ (tk₃ + 1) tk₆ := htk6
      have hD₆ : h₆.get? D = some (LCg.lst ys) := x₆ _ _ (up₅ _ _ hwD hDC hD')
      refine append_at (s := S (S s₀ h₃ tk₃) h₆ tk₆) (hsz := by show ys.toArray.size ≤ sizeLine; rw [List.size_toArray, hyl]; unfold sizeLine; (first | lia | omega)) hD₆ fun h₇ hs₇ hD₇ => ?_
      replace hs₇ : Heap.SameBut D h₆ h₇ := hs₇
      have up₇ : ∀ b o, b ≠ D → h₅.get? b = some o → h₇.get? b = some o := fun b o n q => (hs₇.2 b n).trans (x₆ b o q)
      have tkle : @LE.le Nat _ tk tk₆ := Nat.le_trans htk3 (Nat.le_trans (Nat.le_succ _) htk6)
      refine ⟨n + 1 - (i + 1), by (first | lia | omega), h₇, tk₆, i + 1, ys ++ [z], _, rfl, Nat.le_trans hktk tkle, hlt, rfl, by simp [hyl], W.frame _ h₅ _ hst₅ fun b hb o q => up₇ b o (hfC b hb).2 q, ?_, hn₅.at' fun o q => up₇ _ _ (Ne.symm hDC) q, fun p hp => ⟨up₇ _ _ (hnCD p hp).2 (N₅ p hp).1, (N₅ p hp).2⟩, hD₇.trans (congrArg some (LCg.lst_snoc ys z)), fun j v q => ?_⟩
      · obtain ⟨o, es, ep, q, r⟩ := F₅.ns
        exact ⟨⟨o, es, ep, up₇ _ _ hLCD.2 q, r⟩, fun b o q => up₇ b o (fun z => by rw [z, nD0] at q; cases q) (F₅.keep b o q), F₅.above⟩
      · rcases Nat.lt_or_ge j i with hj | hj
        · rw [List.getElem?_append_left (by (first | lia | omega))] at q; exact hmono _ _ _ _ tkle (hys j v q)
        · have hje : j = i := by
            have := (List.getElem?_eq_some_iff.mp q).1
            simp [hyl] at this; (first | lia | omega)
          subst hje
          rw [List.getElem?_append_right (by (first | lia | omega)), hyl, Nat.sub_self] at q
          simp at q
          rw [← q]; exact hz
    · have hin : i = n := by (first | lia | omega)
      subst hin
      refine wpAny_mono (wpAny_toks_of (n := tk) (s := S s₀ h' tk) (Nat.le_refl _) (W.done (S s₀ h' tk) (fun r s' => ∃ h₂ tk₂, r = none ∧ s' = S s₀ h₂ tk₂ ∧ ∀ b o, b ∉ wr → h'.get? b = some o → h₂.get? b = some o) _ hst' fun h₃ tk₃ hk₃ => ⟨h₃, tk₃, rfl, rfl, hk₃⟩)) (fun r s' q => ?_) fun _ _ e => e.2
      obtain ⟨htk3, h₃, tk₃, rfl, rfl, hk₃⟩ := q
      replace htk3 : @LE.le Nat _ tk tk₃ := htk3
      refine hRR D C h₃ tk₃ ys _ ?_ (fun p hp => ?_) (fun p hp => ⟨(hnCD p hp).2, (hnCD p hp).1⟩) (hn'.at' fun o q => hk₃ _ o hwC q) (Ne.symm hLCD.1) (Ne.symm hLCD.2) hDC nC0 nD0 (Nat.le_trans hktk htk3) (by (first | lia | omega)) (fun j v q => hmono _ _ _ _ htk3 (hys j v q))
      · obtain ⟨o, es, ep, q, r⟩ := F'.ns
        refine ⟨⟨o, es, ep, hk₃ _ _ h2 q, r⟩, fun b o q => hk₃ b o (fun z => ?_) (F'.keep b o q), F'.above⟩
        rw [h1 b z] at q; cases q
      · rcases List.mem_cons.mp hp with rfl | hp
        · exact ⟨hk₃ _ _ hwD hD', Ne.symm hLCD.2, nD0⟩
        · exact ⟨hk₃ _ _ (h3 p hp) (N' p hp).1, (N' p hp).2⟩
  have goal2 := loop
  rw [hCe, ← hH2, hDe] at goal2
  exact codeAny_compStart_list goal2 (W.self 0 { S s₀ h₁ k₁ with heap := h₂, toks := k₁ + ([] : List (Str × Value)).length } _ _ st₂ goal2)
theorem k_compK {Q : Value → Shared → Prop} (_F : Fr h₀ L h m) (_N : News h₀ L h news) (n : Nat) (P : Nat → Value → Prop) (Fm : Nat → Value → Nat → Prop) (hmono : ∀ i y k k', k ≤ k' → Fm i y k → Fm i y k') (hn : n ≤ 10000)
    (hclos : closureFor scope (envX cn cs L a ccd cl) = pure cl2) (hcell : ∀ y ∈ scope.names, y.2 ≠ .cell) (hkind : scope.kind = .function)
    (hnames : ∀ y ∈ scope.names, y.2 = .local → scope.names.lookup y.1 = some .local) (hx : scope.names.lookup x = some .local)
    (hs : ∀ x, foldedSetIterable iter (envX cn cs L a ccd cl) x = pure x)
    (hit : wpAny (model prog w) A (eval iter (envX cn cs L a ccd cl)) (fun xv s₁ => wpAny (model prog w) A (pyIter xv) (fun it s₂ => CompAt w A s₀ h₀ L m news n P it s₂) E s₁) E (S s₀ h k))
    (helt : EltOkK w A h₀ L m news P Fm (envX cn cs L a ccd cl) scope cl2 x elt k)
    (done : ∀ D h' k' (ys : List Value) z, Fr h₀ L h' m → News h₀ L h' ((D, listOf ys.toArray z) :: news) → (∀ p ∈ news, p.1 ≠ D) → k ≤ k' → ys.length = n → (∀ j v, ys[j]? = some v → Fm j v k') → Q (.ref D) (S s₀ h' k')) :
    wpAny (model prog w) A (eval (.ListComp elt [⟨.Name x px, iter, [], 0⟩] scope pos) (envX cn cs L a ccd cl)) Q E (S s₀ h k) := by
  rw [eval_ListComp]
  have hit2 := wpAny_toks_of (n := k) (Nat.le_refl _) hit
  refine wpAny_comprehension_free (use := none) rfl hs hclos hkind hnames (wpAny_mono hit2 (fun xv s₁ q => ?_) fun _ _ e => e.2)
  have q2 := wpAny_toks_of (n := k) q.1 q.2
  refine wpAny_mono q2 (fun it s₂ q => ?_) fun _ _ e => e.2
  obtain ⟨hkk2, ⟨I, fp, wr, St, h₁, k₁, rfl, rfl, W, hst, hfp, h1, h2, h3, F, N⟩⟩ := q
  refine comp_blockK (RR := fun acc C => compPost (model prog w) A E none Q acc C) Fm hmono hn hcell hkind hx hkk2 W hst hfp h1 h2 h3 F N helt fun D C h' tk ys m' F' N' hne hC hCL hDL hDC hC0 hD0 hk' hl hF => ?_
  refine ⟨_, hC, fun h₄ hs₄ => ?_⟩
  replace hs₄ : Heap.SameBut C h' h₄ := hs₄
  refine done D h₄ tk ys ys.length ⟨?_, fun b o q => (hs₄.2 b fun z => by rw [z, hC0] at q; cases q).trans (F'.keep _ _ q), F'.above⟩ (fun p hp => ?_) (fun p hp => (hne p hp).1) hk' hl hF
  · obtain ⟨o, es, ep, q, r⟩ := F'.ns
    exact ⟨o, es, ep, (hs₄.2 _ (Ne.symm hCL)).trans q, r⟩
  · refine ⟨(hs₄.2 _ ?_).trans (N' p hp).1, (N' p hp).2⟩
    rcases List.mem_cons.mp hp with rfl | hp
    · exact hDC
    · exact (hne p hp).2
/-- the same, kept in a local -/
theorem k_compKA {py spos : Pos} {y : Str} {vals : List (Str × Value)} {Q : Flow → Shared → Prop} (_F : Fr h₀ L h (look vals)) (_N : News h₀ L h news) (n : Nat) (P : Nat → Value → Prop) (Fm : Nat → Value → Nat → Prop) (hmono : ∀ i y k k', k ≤ k' → Fm i y k → Fm i y k') (hn : n ≤ 10000)
    (hsw : swapsWith (.ListComp elt [⟨.Name x px, iter, [], 0⟩] scope pos) (some (.Name y py)) spos.line (envX cn cs L a ccd cl) = pure true)
    (hclos : closureFor scope (envX cn cs L a ccd cl) = pure cl2) (hcell : ∀ y ∈ scope.names, y.2 ≠ .cell) (hkind : scope.kind = .function)
    (hnames : ∀ y ∈ scope.names, y.2 = .local → scope.names.lookup y.1 = some .local) (hx : scope.names.lookup x = some .local)
    (hy : (envX cn cs L a ccd cl).kindOf y = some .local) (hck : cs.kind = .function)
    (hs : ∀ x, foldedSetIterable iter (envX cn cs L a ccd cl) x = pure x)
    (hit : wpAny (model prog w) A (eval iter (envX cn cs L a ccd cl)) (fun xv s₁ => wpAny (model prog w) A (pyIter xv) (fun it s₂ => CompAt w A s₀ h₀ L (look vals) news n P it s₂) E s₁) E (S s₀ h k))
    (helt : EltOkK w A h₀ L (look vals) news P Fm (envX cn cs L a ccd cl) scope cl2 x elt k)
    (done : ∀ D h' k' (ys : List Value) z, Fr h₀ L h' (look ((y, .ref D) :: vals)) → News h₀ L h' ((D, listOf ys.toArray z) :: news) → (∀ p ∈ news, p.1 ≠ D) → k ≤ k' → ys.length = n → (∀ j v, ys[j]? = some v → Fm j v k') → Q .next (S s₀ h' k')) :
    wpAny (model prog w) A (exec (.Assign [.Name y py] (.ListComp elt [⟨.Name x px, iter, [], 0⟩] scope pos) spos) (envX cn cs L a ccd cl)) Q E (S s₀ h k) := by
  rw [exec_Assign_Name_used _ _ _ _ hsw]
  refine wpAny_bind (wpAny_standAt (wpAny_bind ?_))
  show wpAny _ A (do let _ ← comprehension (.ListComp elt [⟨.Name x px, iter, [], 0⟩] scope pos) scope (envX cn cs L a ccd cl) _ (newList []) false (eval iter (envX cn cs L a ccd cl)) (some (assign (.Name y py) (envX cn cs L a ccd cl)))) _ _ _
  have hit2 := wpAny_toks_of (n := k) (Nat.le_refl _) hit
  refine wpAny_bind (wpAny_mono (wpAny_comprehension_free (use := some (assign (.Name y py) (envX cn cs L a ccd cl))) (Q := fun _ s' => Q .next s') rfl hs hclos hkind hnames
    (wpAny_mono hit2 (fun xv s₁ q => ?_) fun e s' q => q.2)) (fun _ s' hq => wpAny_pure (wpAny_pure hq)) fun _ _ e => e)
  have q2 := wpAny_toks_of (n := k) q.1 q.2
  refine wpAny_mono q2 (fun it s₂ q => ?_) fun _ _ e => e.2
  obtain ⟨hkk2, ⟨I, fp, wr, St, h₁, k₁, rfl, rfl, W, hst, hfp, h1, h2, h3, F, N⟩⟩ := q
  refine comp_blockK (RR := fun acc C => compPost (model prog w) A E (some (assign (.Name y py) (envX cn cs L a ccd cl))) (fun _ s' => Q .next s') acc C) Fm hmono hn hcell hkind hx hkk2 W hst hfp h1 h2 h3 F N helt fun D C h' tk ys m' F' N' hne hC hCL hDL hDC hC0 hD0 hk' hl hF => ?_
  show wpAny _ A (assign (.Name y py) (envX cn cs L a ccd cl) (.ref D)) _ _ _
  obtain ⟨oC, hoC, hnC⟩ := LCg.ns_obj hC
  have N2 : News h₀ L h' ((C, oC) :: (D, listOf ys.toArray ys.length) :: news) := fun p hp => by
    rcases List.mem_cons.mp hp with rfl | hp
    · exact ⟨hoC, hCL, hC0⟩
    · exact N' p hp
  refine wpAny_assign_Name (storeX_L (s := S s₀ h' tk) F' N2 (fun h5 F5 N5 => ?_) hck hy)
  refine ⟨_, hnC.ns (N5 _ (.head _)).1, fun h₄ hs₄ => ?_⟩
  replace hs₄ : Heap.SameBut C h5 h₄ := hs₄
  have F5' : Fr h₀ L h5 (look ((y, .ref D) :: vals)) := F5
  refine done D h₄ (tk + 1) ys ys.length ⟨?_, fun b o q => (hs₄.2 b fun z => by rw [z, hC0] at q; cases q).trans (F5'.keep _ _ q), F5'.above⟩ (fun p hp => ?_) (fun p hp => (hne p hp).1) (Nat.le_succ_of_le hk') hl (fun j v q => hmono _ _ _ _ (Nat.le_succ _) (hF j v q))
  · obtain ⟨o, es, ep, q, r⟩ := F5'.ns
    exact ⟨o, es, ep, (hs₄.2 _ (Ne.symm hCL)).trans q, r⟩
  · refine ⟨(hs₄.2 _ ?_).trans (N5 p (.tail _ hp)).1, (N5 p (.tail _ hp)).2⟩
    rcases List.mem_cons.mp hp with rfl | hp
    · exact hDC
    · exact (hne p hp).2
end
end
section
theorem twelve {deck : T} (h : deck.length = 12) : ∃ c0 c1 c2 c3 c4 c5 c6 c7 c8 c9 c10 c11 : Nat, deck = [c0, c1, c2, c3, c4, c5, c6, c7, c8, c9, c10, c11] := by
  match deck, h with
  | [c0, c1, c2, c3, c4, c5, c6, c7, c8, c9, c10, c11], _ => exact ⟨_, _, _, _, _, _, _, _, _, _, _, _, rfl⟩
/-- a deck: of plain signs or of escapes -/
structure DeckOk (bare : Bool) (deck : T) : Prop where
  len : deck.length = 12
  sign : ∀ c ∈ deck, c < 256 ∧ c ≠ 10 ∧ c ≠ 13 ∧ pl c = bare
  last : deck.getD 11 0 ≠ 32 ∧ deck.getD 11 0 ≠ 9
noncomputable def sufRows (s : T) : List T → List T
  | [] => []
  | [x] => [x]
  | x :: y :: r => (x ++ s) :: sufRows s (y :: r)
noncomputable abbrev markRows (rs : List T) : List T := sufRows [61] rs
theorem sufRows_join (s eol : T) : ∀ rs : List T, joinT eol (sufRows s rs) = joinT (s ++ eol) rs
  | [] => rfl
  | [_] => rfl
  | [x, y] => by simp [sufRows, joinT]
  | x :: y :: z :: r => by
    have ih := sufRows_join s eol (y :: z :: r)
    show joinT eol ((x ++ s) :: (y ++ s) :: sufRows s (z :: r)) = _
    rw [joinT_cons (by simp), joinT_cons (e := s ++ eol) (by simp), ← ih]
    simp [sufRows]
noncomputable def rowsT (codes : List T) (width : Nat) : List T := (List.range (12 / width)).map fun j => ((codes.drop (j * width)).take width).flatten
noncomputable def chunksT (deck : T) (width : Nat) : List T := (List.range (12 / width)).map fun j => (deck.drop (j * width)).take width
theorem enc_plain {m : Nat} {eol r : T} (hm : 4 ≤ m) (h : m < r.length) (h3 : r.getD (m - 3) 0 ≠ 61) (h2 : r.getD (m - 2) 0 ≠ 61) {X Y : List T} (hX : encLine m eol (r.drop (m - 1)) = X) (hY : (r.take (m - 1) ++ [61]) :: X = Y) : encLine m eol r = Y := by
  rw [← hY, encLine_long hm h, if_neg h3, if_neg h2, hX]
theorem enc_at2 {m : Nat} {eol r : T} (hm : 4 ≤ m) (h : m < r.length) (h3 : r.getD (m - 3) 0 ≠ 61) (h2 : r.getD (m - 2) 0 = 61) {X Y : List T} (hX : encLine m eol (r.drop (m - 2)) = X) (hY : r.take (m - 1) :: X = Y) : encLine m eol r = Y := by
  rw [← hY, encLine_long hm h, if_neg h3, if_pos h2, hX]
theorem enc_at3 {m : Nat} {eol r : T} (hm : 4 ≤ m) (h : m < r.length) (h3 : r.getD (m - 3) 0 = 61) {X Y : List T} (hX : encLine m eol (r.drop (m - 3)) = X) (hY : r.take (m - 2) :: X = Y) : encLine m eol r = Y := by
  rw [← hY, encLine_long hm h, if_pos h3, hX]
theorem enc_end {m : Nat} {eol r : T} {c : Nat} (h : r.length ≤ m) (hc : r.getLast? = some c) (h1 : c ≠ 32) (h2 : c ≠ 9) : encLine m eol r = [r] := by
  rw [encLine_short (by (first | lia | omega))]
  unfold fin
  rw [hc]
  simp only
  rw [if_neg (by (first | lia | omega))]
theorem hexU_ne (d : Nat) : hexU d ≠ 61 := by unfold hexU; split <;> (first | lia | omega)
theorem hexU_ws (d : Nat) : hexU d ≠ 32 ∧ hexU d ≠ 9 := by unfold hexU; split <;> (first | lia | omega)
theorem trans_pl : ∀ {l : T}, (∀ c ∈ l, pl c = true) → trans l = l
  | [], _ => rfl
  | c :: r, h => by
    have ih := trans_pl (l := r) fun x hx => h x (by simp [hx])
    unfold trans at ih ⊢
    rw [List.flatMap_cons, ih]
    simp [bm, h c (by simp)]
theorem trans_np : ∀ {l : T}, (∀ c ∈ l, pl c = false ∧ c ≠ 10 ∧ c ≠ 13) → trans l = l.flatMap esc
  | [], _ => rfl
  | c :: r, h => by
    have ih := trans_np (l := r) fun x hx => h x (by simp [hx])
    unfold trans at ih ⊢
    obtain ⟨h1, h2, h3⟩ := h c (by simp)
    rw [List.flatMap_cons, ih, List.flatMap_cons]
    simp [bm, h1, h2, h3]
theorem code_pl {l : T} (h : ∀ c ∈ l, pl c = true) : l.map code = l.map fun c => [c] := List.map_congr_left fun c hc => by simp [code, h c hc]
theorem code_np {l : T} (h : ∀ c ∈ l, pl c = false) : l.map code = l.map esc := List.map_congr_left fun c hc => by simp [code, h c hc]
theorem pl_ne {c : Nat} (h : pl c = true) : c ≠ 61 := by rintro rfl; cases h
/-- the deck's rows -/
theorem deck_enc {bare : Bool} {deck eol : T} {w m q : Nat} (H : DeckOk bare deck) (hw : w = 6 ∨ w = 4 ∨ w = 3) (hq : q < 3) (hm : m = if bare then w + 1 else 3 * w + 1 + q) :
    encLine m eol (trans deck) = markRows (rowsT (deck.map code) w) := by
  obtain ⟨hl, hs, h32, h9⟩ := H
  obtain ⟨c0, c1, c2, c3, c4, c5, c6, c7, c8, c9, c10, c11, rfl⟩ := twelve hl
  have n32 : c11 ≠ 32 := h32
  have n9 : c11 ≠ 9 := h9
  cases bare with
  | true =>
    have hp : ∀ c ∈ [c0, c1, c2, c3, c4, c5, c6, c7, c8, c9, c10, c11], pl c = true := fun c hc => (hs c hc).2.2.2
    have hn : ∀ c ∈ [c0, c1, c2, c3, c4, c5, c6, c7, c8, c9, c10, c11], c ≠ 61 := fun c hc => pl_ne (hp c hc)
    rw [trans_pl hp, code_pl hp]
    simp only [List.mem_cons, List.mem_nil_iff, or_false, forall_eq_or_imp, forall_eq] at hn
    obtain ⟨n0, n1, n2, n3, n4, n5, n6, n7, n8, n9', n10, n11⟩ := hn
    simp only [if_true] at hm
    rcases hw with rfl | rfl | rfl <;> subst hm
    · refine' enc_plain (by decide) (by simp) (by exact n4) (by exact n5) ?a1 ?b1
      case a1 =>
        exact enc_end (c := c11) (by simp) rfl n32 n9
      case b1 => rfl
    · refine' enc_plain (by decide) (by simp) (by exact n2) (by exact n3) ?a2 ?b2
      case a2 =>
        refine' enc_plain (by decide) (by simp) (by exact n6) (by exact n7) ?a3 ?b3
        case a3 =>
          exact enc_end (c := c11) (by simp) rfl n32 n9
        case b3 => rfl
      case b2 => rfl
    · refine' enc_plain (by decide) (by simp) (by exact n1) (by exact n2) ?a4 ?b4
      case a4 =>
        refine' enc_plain (by decide) (by simp) (by exact n4) (by exact n5) ?a5 ?b5
        case a5 =>
          refine' enc_plain (by decide) (by simp) (by exact n7) (by exact n8) ?a6 ?b6
          case a6 =>
            exact enc_end (c := c11) (by simp) rfl n32 n9
          case b6 => rfl
        case b5 => rfl
      case b4 => rfl
  | false =>
    have hp : ∀ c ∈ [c0, c1, c2, c3, c4, c5, c6, c7, c8, c9, c10, c11], pl c = false := fun c hc => (hs c hc).2.2.2
    rw [trans_np (fun c hc => ⟨hp c hc, (hs c hc).2.1, (hs c hc).2.2.1⟩), code_np hp]
    simp only [Bool.false_eq_true, if_false] at hm
    have e11 := hexU_ws (c11 % 16)
    have hq3 : q = 0 ∨ q = 1 ∨ q = 2 := by (first | lia | omega)
    rcases hw with rfl | rfl | rfl <;> rcases hq3 with rfl | rfl | rfl <;> subst hm
    · refine' enc_plain (by decide) (by simp [esc]) (by exact hexU_ne _) (by exact hexU_ne _) ?a7 ?b7
      case a7 =>
        exact enc_end (c := hexU (c11 % 16)) (by simp [esc]) rfl e11.1 e11.2
      case b7 => rfl
    · refine' enc_at2 (by decide) (by simp [esc]) (by exact hexU_ne _) (by rfl) ?a8 ?b8
      case a8 =>
        exact enc_end (c := hexU (c11 % 16)) (by simp [esc]) rfl e11.1 e11.2
      case b8 => rfl
    · refine' enc_at3 (by decide) (by simp [esc]) (by rfl) ?a9 ?b9
      case a9 =>
        exact enc_end (c := hexU (c11 % 16)) (by simp [esc]) rfl e11.1 e11.2
      case b9 => rfl
    · refine' enc_plain (by decide) (by simp [esc]) (by exact hexU_ne _) (by exact hexU_ne _) ?a10 ?b10
      case a10 =>
        refine' enc_plain (by decide) (by simp [esc]) (by exact hexU_ne _) (by exact hexU_ne _) ?a11 ?b11
        case a11 =>
          exact enc_end (c := hexU (c11 % 16)) (by simp [esc]) rfl e11.1 e11.2
        case b11 => rfl
      case b10 => rfl
    · refine' enc_at2 (by decide) (by simp [esc]) (by exact hexU_ne _) (by rfl) ?a12 ?b12
      case a12 =>
        refine' enc_at2 (by decide) (by simp [esc]) (by exact hexU_ne _) (by rfl) ?a13 ?b13
        case a13 =>
          exact enc_end (c := hexU (c11 % 16)) (by simp [esc]) rfl e11.1 e11.2
        case b13 => rfl
      case b12 => rfl
    · refine' enc_at3 (by decide) (by simp [esc]) (by rfl) ?a14 ?b14
      case a14 =>
        refine' enc_at3 (by decide) (by simp [esc]) (by rfl) ?a15 ?b15
        case a15 =>
          exact enc_end (c := hexU (c11 % 16)) (by simp [esc]) rfl e11.1 e11.2
        case b15 => rfl
      case b14 => rfl
    · refine' enc_plain (by decide) (by simp [esc]) (by exact hexU_ne _) (by exact hexU_ne _) ?a16 ?b16
      case a16 =>
        refine' enc_plain (by decide) (by simp [esc]) (by exact hexU_ne _) (by exact hexU_ne _) ?a17 ?b17
        case a17 =>
          refine' enc_plain (by decide) (by simp [esc]) (by exact hexU_ne _) (by exact hexU_ne _) ?a18 ?b18
          case a18 =>
            exact enc_end (c := hexU (c11 % 16)) (by simp [esc]) rfl e11.1 e11.2
          case b18 => rfl
        case b17 => rfl
      case b16 => rfl
    · refine' enc_at2 (by decide) (by simp [esc]) (by exact hexU_ne _) (by rfl) ?a19 ?b19
      case a19 =>
        refine' enc_at2 (by decide) (by simp [esc]) (by exact hexU_ne _) (by rfl) ?a20 ?b20
        case a20 =>
          refine' enc_at2 (by decide) (by simp [esc]) (by exact hexU_ne _) (by rfl) ?a21 ?b21
          case a21 =>
            exact enc_end (c := hexU (c11 % 16)) (by simp [esc]) rfl e11.1 e11.2
          case b21 => rfl
        case b20 => rfl
      case b19 => rfl
    · refine' enc_at3 (by decide) (by simp [esc]) (by rfl) ?a22 ?b22
      case a22 =>
        refine' enc_at3 (by decide) (by simp [esc]) (by rfl) ?a23 ?b23
        case a23 =>
          refine' enc_at3 (by decide) (by simp [esc]) (by rfl) ?a24 ?b24
          case a24 =>
            exact enc_end (c := hexU (c11 % 16)) (by simp [esc]) rfl e11.1 e11.2
          case b24 => rfl
        case b23 => rfl
      case b22 => rfl
end
section
noncomputable def linesOf (deck note : T) (shut : Bool) : List T := [deck, note, [], note] ++ (if shut then [[]] else [])
noncomputable def expT (deck noted eol : T) (width : Nat) (shut : Bool) : T := joinT ([61] ++ eol) (rowsT (deck.map code) width) ++ eol ++ noted ++ eol ++ eol ++ noted ++ (if shut then eol else [])
noncomputable def dl (o l : T) : T := decR o (rstripT l)
theorem rstrip_ws (l : T) : rstripT (l ++ [32, 9]) = rstripT l := by
  unfold rstripT
  rw [List.reverse_append]
  rfl
theorem rstrip_keep {l : T} {c : Nat} (h : l.getLast? = some c) (hc : isWs c = false) : rstripT l = l := by
  obtain ⟨r, rfl⟩ := List.getLast?_eq_some_iff.mp h
  unfold rstripT
  rw [List.reverse_append]
  show (List.dropWhile isWs (c :: r.reverse)).reverse = _
  rw [List.dropWhile_cons_of_neg (by simp [hc])]
  simp
theorem hexV_U : ∀ d < 16, hexV (hexU d) = d ∧ isHex (hexU d) = true := by decide
theorem decR_code {o r : T} {c : Nat} (h : c < 256) : decR o (code c ++ r) = c :: decR o r := by
  unfold code
  split
  · rename_i hp
    show decR o (c :: r) = _
    rw [decR.eq_def]
    simp [pl_ne hp]
  · have h1 := hexV_U (c / 16) (by (first | lia | omega))
    have h2 := hexV_U (c % 16) (by (first | lia | omega))
    show decR o (61 :: hexU (c / 16) :: hexU (c % 16) :: r) = _
    rw [decR.eq_def]
    simp only [if_true, h1.2, h2.2, Bool.and_self, h1.1, h2.1]
    congr 1
    (first | lia | omega)
theorem decR_codes {o r : T} : ∀ {l : T}, (∀ c ∈ l, c < 256) → decR o ((l.map code).flatten ++ r) = l ++ decR o r
  | [], _ => rfl
  | c :: t, h => by
    rw [List.map_cons, List.flatten_cons, List.append_assoc, decR_code (h c (by simp)), decR_codes (l := t) fun x hx => h x (by simp [hx])]
    rfl
theorem dl_mark {o l : T} (h : ∀ c ∈ l, c < 256) : dl o ((l.map code).flatten ++ [61]) = l := by
  unfold dl
  rw [rstrip_keep (c := 61) (by simp) (by decide), decR_codes h]
  simp [decR]
theorem code_last (c : Nat) (h1 : c ≠ 32) (h2 : c ≠ 9) : ∃ x r, code c = r ++ [x] ∧ isWs x = false := by
  unfold code
  split
  · rename_i hp
    refine ⟨c, [], rfl, ?_⟩
    simp [pl] at hp
    simp [isWs]; (first | lia | omega)
  · refine ⟨hexU (c % 16), [61, hexU (c / 16)], rfl, ?_⟩
    simp [isWs]
    have := hexU_ws (c % 16)
    unfold hexU at *
    split <;> (first | lia | omega)
theorem codes_last {l : T} {c : Nat} (hl : l.getLast? = some c) (h1 : c ≠ 32) (h2 : c ≠ 9) : ∃ x, ((l.map code).flatten).getLast? = some x ∧ isWs x = false := by
  obtain ⟨r, rfl⟩ := List.getLast?_eq_some_iff.mp hl
  obtain ⟨x, q, e, hx⟩ := code_last c h1 h2
  refine ⟨x, ?_, hx⟩
  rw [List.map_append, List.flatten_append]
  simp [e]
theorem dl_last {o l : T} {c : Nat} (h : ∀ c ∈ l, c < 256) (hl : l.getLast? = some c) (h1 : c ≠ 32) (h2 : c ≠ 9) : dl o ((l.map code).flatten) = l ++ o := by
  obtain ⟨x, e, hx⟩ := codes_last hl h1 h2
  unfold dl
  rw [rstrip_keep e hx]
  have := decR_codes (o := o) (r := []) h
  rw [List.append_nil] at this
  rw [this]; rfl
/-- what the deck's rows are read as -/
theorem rows_dl {o : T} {c : Nat} (h1 : c ≠ 32) (h2 : c ≠ 9) : ∀ {chs : List T}, (∀ l ∈ chs, ∀ c ∈ l, c < 256) → (∃ l, chs.getLast? = some l ∧ l.getLast? = some c) → (markRows (chs.map fun l => (l.map code).flatten)).flatMap (dl o) = chs.flatten ++ o
  | [], _, h => by obtain ⟨l, e, _⟩ := h; cases e
  | [x], hb, h => by
    obtain ⟨l, e, e2⟩ := h
    simp at e; subst e
    simp [sufRows, dl_last (hb x (by simp)) e2 h1 h2]
  | x :: y :: r, hb, h => by
    have ih := rows_dl (o := o) h1 h2 (chs := y :: r) (fun l hl => hb l (List.mem_cons_of_mem _ hl)) (by simpa using h)
    show (((x.map code).flatten ++ [61]) :: markRows ((y :: r).map fun l => (l.map code).flatten)).flatMap (dl o) = _
    rw [List.flatMap_cons, ih, dl_mark (hb x (by simp))]
    simp
theorem endsW_self (x y : T) : endsW (x ++ y) y = true := by
  unfold endsW
  simp
/-- text of rows is read as its rows -/
theorem decS_join {e o D : T} (he : IsMark e) {ps : List T} (hb : ∀ p ∈ ps, NoBr p) (hD : ps.flatMap (dl o) = D ++ o) (h2 : 2 ≤ ps.length) : decS (joinT e ps) o = D := by
  obtain ⟨init, x, rfl⟩ : ∃ init x, ps = init ++ [x] := ⟨ps.dropLast, ps.getLast (by rintro rfl; simp at h2), by rw [List.dropLast_concat_getLast]⟩
  have hi : init ≠ [] := by rintro rfl; simp at h2
  have hne : joinT e (init ++ [x]) ≠ [] := by
    rw [joinT_append hi (by simp)]
    have : e ≠ [] := by rcases he with rfl | rfl | rfl <;> simp
    simp [this]
  unfold decS
  rw [if_neg hne, splitL_join he _ hb]
  by_cases hx : x = []
  · subst hx
    rw [endsBr_join_nil he init hi]
    simp only [List.getLast?_append, List.getLast?_singleton, Option.some_or, if_true, List.dropLast_concat, Bool.not_true, Bool.false_and, Bool.false_eq_true, if_false]
    rw [List.flatMap_append] at hD
    have hz : [([] : T)].flatMap (dl o) = o := by simp [dl, rstripT, decR]
    rw [hz] at hD
    exact List.append_cancel_right hD
  · rw [endsBr_join init hx, endsBr_nobr (hb x (by simp)), show (if (init ++ [x]).getLast? = some [] then (init ++ [x]).dropLast else init ++ [x]) = init ++ [x] from if_neg (by simp [hx])]
    show (if (!false && endsW ((init ++ [x]).flatMap (dl o)) o) = true then ((init ++ [x]).flatMap (dl o)).take (((init ++ [x]).flatMap (dl o)).length - o.length) else (init ++ [x]).flatMap (dl o)) = D
    rw [hD, endsW_self]
    simp
/-- one row by itself -/
theorem decS_row {o l : T} (hb : NoBr l) (hne : l ≠ []) (ho : endsW (dl o l) o = false) : decS l o = dl o l := by
  unfold decS
  rw [if_neg hne, splitL_nobr l [] hb, endsBr_nobr hb]
  rw [List.nil_append, if_neg hne]
  show (if (!false && endsW (([l] : List T).flatMap (dl o)) o) = true then _ else _) = _
  rw [show ([l] : List T).flatMap (dl o) = dl o l by simp, ho]
  simp; rfl
theorem decS_row2 {o l D : T} (hb : NoBr l) (hne : l ≠ []) (ho : dl o l = D ++ o) : decS l o = D := by
  unfold decS
  rw [if_neg hne, splitL_nobr l [] hb, endsBr_nobr hb]
  rw [List.nil_append, if_neg hne]
  show (if (!false && endsW (([l] : List T).flatMap (dl o)) o) = true then (([l] : List T).flatMap (dl o)).take ((([l] : List T).flatMap (dl o)).length - o.length) else ([l] : List T).flatMap (dl o)) = _
  rw [show ([l] : List T).flatMap (dl o) = dl o l by simp, ho, endsW_self]
  simp
end
section
noncomputable def allC (p : Nat → Nat → Nat → Bool) : Bool :=
  rooms.all fun m => [46, 32, 9].all fun last => (List.range 5).all fun a => (List.range 2).all fun b => p m last (m - 4 + a + (m - 1) * b)
theorem allC_spec {p : Nat → Nat → Nat → Bool} (h : allC p = true) {m last a b : Nat} (hm : m ∈ rooms) (hl : last = 46 ∨ last = 32 ∨ last = 9) (ha : a < 5) (hb : b < 2) : p m last (m - 4 + a + (m - 1) * b) = true := by
  simp only [allC, List.all_eq_true] at h
  exact h m hm last (by simpa using hl) a (by simpa using ha) b (by simpa using hb)
noncomputable def okP (c : Nat) : Bool := c == 9 || c == 10 || c == 13 || (decide (32 ≤ c) && decide (c ≤ 126))
theorem note_enc : allC (fun m last count => [[10], [13, 10]].all fun eol => joinT eol (encLine m eol (List.replicate count 110 ++ [last])) == noteS count last m eol && joinT eol (noteRows count last m) == noteS count last m eol) = true := by decide +kernel
theorem note_dec : allC (fun m last count => [[10], [13, 10]].all fun o => (noteRows count last m).flatMap (dl o) == List.replicate count 110 ++ [last] ++ o) = true := by decide +kernel
theorem note_rows : allC (fun m last count => decide ((noteRows count last m).length ≤ 5) && (noteRows count last m).all fun r => decide (r.length ≤ 24) && r.all fun c => okP c && c != 10 && c != 13) = true := by decide +kernel
theorem note_size : allC (fun m last count => decide (count ≤ 41) && [[10], [13, 10]].all fun eol => decide ((noteS count last m eol).length ≤ 200)) = true := by decide +kernel
noncomputable def piecesT (deck : T) (w count last m : Nat) (shut : Bool) : List T := markRows (rowsT (deck.map code) w) ++ (noteRows count last m ++ ([[]] ++ (noteRows count last m ++ (if shut then [[]] else []))))
theorem sufRows_dl {o : T} : ∀ ps : List T, (sufRows [32, 9] ps).flatMap (dl o) = ps.flatMap (dl o)
  | [] => rfl
  | [_] => rfl
  | x :: y :: r => by
    have ih := sufRows_dl (o := o) (y :: r)
    show ((x ++ [32, 9]) :: sufRows [32, 9] (y :: r)).flatMap (dl o) = _
    rw [List.flatMap_cons, ih, show dl o (x ++ [32, 9]) = dl o x from congrArg (decR o) (rstrip_ws x), ← List.flatMap_cons]
theorem sufRows_length (s : T) : ∀ ps : List T, (sufRows s ps).length = ps.length
  | [] => rfl
  | [_] => rfl
  | x :: y :: r => by
    have ih := sufRows_length s (y :: r)
    show (sufRows s (y :: r)).length + 1 = _
    rw [ih]; rfl
theorem sufRows_mem {s p : T} : ∀ {ps : List T}, p ∈ sufRows s ps → ∃ q ∈ ps, p = q ∨ p = q ++ s
  | [], h => nomatch h
  | [x], h => ⟨x, by simp, .inl (by simpa [sufRows] using h)⟩
  | x :: y :: r, h => by
    rcases List.mem_cons.mp h with rfl | h
    · exact ⟨x, by simp, .inr rfl⟩
    · obtain ⟨q, hq, e⟩ := sufRows_mem h
      exact ⟨q, List.mem_cons_of_mem _ hq, e⟩
theorem rows_map (deck : T) (w : Nat) : rowsT (deck.map code) w = (chunksT deck w).map fun l => (l.map code).flatten := by
  unfold rowsT chunksT
  rw [List.map_map]
  refine List.map_congr_left fun j _ => ?_
  simp [List.map_take, List.map_drop]
theorem chunks_flat {deck : T} {w : Nat} (hl : deck.length = 12) (hw : w = 6 ∨ w = 4 ∨ w = 3) : (chunksT deck w).flatten = deck ∧ ∃ l, (chunksT deck w).getLast? = some l ∧ l.getLast? = some (deck.getD 11 0) := by
  obtain ⟨c0, c1, c2, c3, c4, c5, c6, c7, c8, c9, c10, c11, rfl⟩ := twelve hl
  rcases hw with rfl | rfl | rfl <;> exact ⟨rfl, _, rfl, rfl⟩
theorem chunks_mem {deck l : T} {w : Nat} (h : l ∈ chunksT deck w) : ∀ c ∈ l, c ∈ deck := by
  unfold chunksT at h
  obtain ⟨j, _, rfl⟩ := List.mem_map.mp h
  exact fun c hc => List.mem_of_mem_drop (List.mem_of_mem_take hc)
theorem chunks_len {deck l : T} {w : Nat} (h : l ∈ chunksT deck w) (hd : deck.length = 12) (hw : w = 6 ∨ w = 4 ∨ w = 3) : l.length = w := by
  unfold chunksT at h
  obtain ⟨j, hj, rfl⟩ := List.mem_map.mp h
  rw [List.mem_range] at hj
  rw [List.length_take, List.length_drop, hd]
  rcases hw with rfl | rfl | rfl <;> (first | lia | omega)
theorem code_okP {c : Nat} (h : c < 256) : ∀ x ∈ code c, okP x = true ∧ x ≠ 10 ∧ x ≠ 13 := by
  intro x hx
  unfold code at hx
  split at hx
  · rename_i hp
    rw [List.mem_singleton] at hx
    subst hx
    simp [pl] at hp
    simp [okP]; (first | lia | omega)
  · have h1 : c / 16 < 16 := by (first | lia | omega)
    have h2 : c % 16 < 16 := by (first | lia | omega)
    have key : ∀ d < 16, okP (hexU d) = true ∧ hexU d ≠ 10 ∧ hexU d ≠ 13 := by decide
    simp [esc] at hx
    rcases hx with rfl | rfl | rfl
    · decide
    · exact key _ h1
    · exact key _ h2
theorem code_len (c : Nat) : 1 ≤ (code c).length ∧ (code c).length ≤ 3 := by unfold code; split <;> simp [esc]
theorem codes_len : ∀ l : T, l.length ≤ ((l.map code).flatten).length ∧ ((l.map code).flatten).length ≤ 3 * l.length
  | [] => by simp
  | c :: r => by
    have h1 := code_len c
    have h2 := codes_len r
    simp only [List.map_cons, List.flatten_cons, List.length_append, List.length_cons]
    (first | lia | omega)
theorem codes_okP {l : T} (h : ∀ c ∈ l, c < 256) : ∀ x ∈ (l.map code).flatten, okP x = true ∧ x ≠ 10 ∧ x ≠ 13 := by
  intro x hx
  obtain ⟨y, hy, hx⟩ := List.mem_flatten.mp hx
  obtain ⟨c, hc, rfl⟩ := List.mem_map.mp hy
  exact code_okP (h c hc) x hx
theorem trans_nobr {l : T} (h : ∀ c ∈ l, c ≠ 10 ∧ c ≠ 13) : NoBr (trans l) := by
  intro x hx
  unfold trans at hx
  obtain ⟨c, hc, hx⟩ := List.mem_flatMap.mp hx
  have := h c hc
  unfold bm at hx
  split at hx
  · rw [List.mem_singleton] at hx; subst hx; exact this
  · simp [esc] at hx
    have key : ∀ d, hexU d ≠ 10 ∧ hexU d ≠ 13 := fun d => by unfold hexU; split <;> (first | lia | omega)
    rcases hx with rfl | rfl | rfl
    · decide
    · exact key _
    · exact key _
theorem trans_note {count last : Nat} (hl : last = 46 ∨ last = 32 ∨ last = 9) : trans (List.replicate count 110 ++ [last]) = List.replicate count 110 ++ [last] := by
  refine trans_pl fun c hc => ?_
  rcases List.mem_append.mp hc with hc | hc
  · rw [List.eq_of_mem_replicate hc]; decide
  · rw [List.mem_singleton.mp hc]; rcases hl with rfl | rfl | rfl <;> decide
theorem joinT_swap {e : T} {a b b' c : List T} (hb : b ≠ []) (hb' : b' ≠ []) (h : joinT e b = joinT e b') : joinT e (a ++ (b ++ c)) = joinT e (a ++ (b' ++ c)) := by
  have h1 : joinT e (b ++ c) = joinT e (b' ++ c) := by
    by_cases hc : c = []
    · subst hc; simpa using h
    · rw [joinT_append hb hc, joinT_append hb' hc, h]
  by_cases ha : a = []
  · subst ha; exact h1
  · rw [joinT_append ha (by simp [hb]), joinT_append ha (by simp [hb']), h1]
theorem encR_ne (m : Nat) (eol : T) : ∀ (f : Nat) (r : T), encR m eol f r ≠ []
  | 0, r => by simp [encR]
  | f + 1, r => by
    rw [encR]
    split
    · split
      · simp
      · split <;> simp
    · simp
/-- each row of the deck by itself -/
theorem rows_read {c : Nat} (h1 : c ≠ 32) (h2 : c ≠ 9) : ∀ {chs : List T}, (∀ l ∈ chs, (∀ c ∈ l, c < 256) ∧ (∀ c ∈ l, c ≠ 10) ∧ 1 ≤ l.length) → (∃ l, chs.getLast? = some l ∧ l.getLast? = some c) → chs ≠ [] → (markRows (chs.map fun l => (l.map code).flatten)).map (fun r => decS r [10]) = chs
  | [], _, _, h => absurd rfl h
  | [x], hb, h, _ => by
    obtain ⟨l, e, e2⟩ := h
    simp at e; subst e
    obtain ⟨b1, b2, b3⟩ := hb x (by simp)
    show [decS ((x.map code).flatten) [10]] = [x]
    have := codes_len x
    rw [decS_row2 (D := x) (fun y hy => (codes_okP b1 y hy).2) (by intro e; have h5 := this.1; rw [e, List.length_nil] at h5; (first | lia | omega)) (dl_last b1 e2 h1 h2)]
  | x :: y :: r, hb, h, _ => by
    have ih := rows_read h1 h2 (chs := y :: r) (fun l hl => hb l (List.mem_cons_of_mem _ hl)) (by simpa using h) (by simp)
    obtain ⟨b1, b2, b3⟩ := hb x (by simp)
    show decS ((x.map code).flatten ++ [61]) [10] :: (markRows ((y :: r).map fun l => (l.map code).flatten)).map (fun r => decS r [10]) = _
    rw [ih]
    congr 1
    have hd := dl_mark (o := [10]) b1
    have q1 : NoBr ((x.map code).flatten ++ [61]) := fun z hz => by
      rcases List.mem_append.mp hz with hz | hz
      · exact (codes_okP b1 z hz).2
      · rw [List.mem_singleton.mp hz]; decide
    have q2 : endsW x [10] = false := by
      unfold endsW
      have : x.drop (x.length - ([10] : T).length) ≠ [10] := by
        intro e
        have : (10 : Nat) ∈ x := List.mem_of_mem_drop (e ▸ List.mem_singleton.mpr rfl)
        exact b2 10 this rfl
      simp only [Bool.and_eq_false_iff]
      exact .inl (by simpa using this)
    rw [decS_row q1 (by simp) (by rw [hd]; exact q2), hd]
/-- what is asked of the deed's text -/
structure PiecesOk (deck : T) (w m : Nat) (note noted mark eol : T) (shut : Bool) (ps : List T) : Prop where
  enc : bodyEnc (joinT mark (linesOf deck note shut)) m eol = joinT eol ps
  exp : joinT eol ps = expT deck noted eol w shut
  dec1 : decS (joinT eol ps) [10] = joinT [10] (linesOf deck note shut)
  dec2 : decS (joinT ([32, 9] ++ eol) ps) eol = joinT eol (linesOf deck note shut)
  dec3 : (ps.take (12 / w)).map (fun r => decS r [10]) = chunksT deck w
  row : ∀ p ∈ ps, (∀ c ∈ p, okP c = true ∧ c ≠ 10 ∧ c ≠ 13) ∧ p.length ≤ 24
  count : ps.length ≤ 16 ∧ 12 / w ≤ ps.length ∧ 2 ≤ ps.length
theorem lines_flat (o deck note : T) (shut : Bool) : joinT o (linesOf deck note shut) ++ o = deck ++ o ++ (note ++ o) ++ o ++ (note ++ o) ++ (if shut then o else []) := by
  unfold linesOf
  cases shut <;> simp [joinT]
theorem pieces_ok {bare : Bool} {deck mark eol : T} {w m q last a b : Nat} (shut : Bool) (H : DeckOk bare deck) (hw : w = 6 ∨ w = 4 ∨ w = 3) (hq : q < 3) (hm : m = if bare then w + 1 else 3 * w + 1 + q)
    (hlast : last = 46 ∨ last = 32 ∨ last = 9) (ha : a < 5) (hb : b < 2) (hmk : IsMark mark) (hek : eol = [10] ∨ eol = [13, 10]) {count : Nat} (hc : count = m - 4 + a + (m - 1) * b) :
    PiecesOk deck w m (List.replicate count 110 ++ [last]) (noteS count last m eol) mark eol shut (piecesT deck w count last m shut) := by
  have hrm : m ∈ rooms := by
    subst hm
    cases bare
    · have hq3 : q = 0 ∨ q = 1 ∨ q = 2 := by (first | lia | omega)
      rcases hw with rfl | rfl | rfl <;> rcases hq3 with rfl | rfl | rfl <;> decide
    · rcases hw with rfl | rfl | rfl <;> (simp only [if_true]; decide)
  have hel : IsMark eol := by rcases hek with rfl | rfl
                              · exact .inl rfl
                              · exact .inr (.inr rfl)
  have heb : eol ∈ [[10], [13, 10]] := by rcases hek with rfl | rfl <;> simp
  have f1 := List.all_eq_true.mp (allC_spec note_enc hrm hlast ha hb) eol heb
  have f2 := allC_spec note_dec hrm hlast ha hb
  have f3 := allC_spec note_rows hrm hlast ha hb
  rw [← hc] at f1 f2 f3
  simp only [Bool.and_eq_true, beq_iff_eq] at f1
  obtain ⟨f11, f12⟩ := f1
  have f2' : ∀ o, o = [10] ∨ o = [13, 10] → (noteRows count last m).flatMap (dl o) = List.replicate count 110 ++ [last] ++ o := fun o ho => by
    have := List.all_eq_true.mp f2 o (by rcases ho with rfl | rfl <;> simp)
    simpa using this
  simp only [Bool.and_eq_true, decide_eq_true_eq, List.all_eq_true, bne_iff_ne] at f3
  obtain ⟨f31, f32⟩ := f3
  generalize hnr : noteRows count last m = nr at *
  have hnr0 : nr ≠ [] := by
    rintro rfl
    have := f2' [10] (.inl rfl)
    simp at this
  obtain ⟨hcf, hcl⟩ := chunks_flat H.len hw
  have hcb : ∀ l ∈ chunksT deck w, ∀ c ∈ l, c < 256 := fun l hl c hc => (H.sign c (chunks_mem hl c hc)).1
  have hrow : ∀ p ∈ rowsT (deck.map code) w, (∀ c ∈ p, okP c = true ∧ c ≠ 10 ∧ c ≠ 13) ∧ p.length ≤ 18 ∧ 1 ≤ p.length := by
    rw [rows_map]
    intro p hp
    obtain ⟨l, hl, rfl⟩ := List.mem_map.mp hp
    have h1 := codes_len l
    have h2 := chunks_len hl H.len hw
    exact ⟨codes_okP (hcb l hl), by (first | lia | omega), by (first | lia | omega)⟩
  have hrl : (rowsT (deck.map code) w).length = 12 / w := by unfold rowsT; simp
  have hr2 : 2 ≤ 12 / w ∧ 12 / w ≤ 4 := by rcases hw with rfl | rfl | rfl <;> decide
  have hmr : ∀ p ∈ markRows (rowsT (deck.map code) w), (∀ c ∈ p, okP c = true ∧ c ≠ 10 ∧ c ≠ 13) ∧ p.length ≤ 24 := by
    intro p hp
    obtain ⟨q, hq, e⟩ := sufRows_mem hp
    obtain ⟨h1, h2, h3⟩ := hrow q hq
    rcases e with rfl | rfl
    · exact ⟨h1, by (first | lia | omega)⟩
    · refine ⟨fun c hc => ?_, by simp; (first | lia | omega)⟩
      rcases List.mem_append.mp hc with hc | hc
      · exact h1 c hc
      · rw [List.mem_singleton.mp hc]; decide
  have hrows : ∀ p ∈ piecesT deck w count last m shut, (∀ c ∈ p, okP c = true ∧ c ≠ 10 ∧ c ≠ 13) ∧ p.length ≤ 24 := by
    intro p hp
    have he : (∀ c ∈ ([] : T), okP c = true ∧ c ≠ 10 ∧ c ≠ 13) ∧ ([] : T).length ≤ 24 := by simp
    have hN : ∀ p ∈ nr, (∀ c ∈ p, okP c = true ∧ c ≠ 10 ∧ c ≠ 13) ∧ p.length ≤ 24 := fun p hp => ⟨fun c hc => ⟨((f32 p hp).2 c hc).1.1, ((f32 p hp).2 c hc).1.2, ((f32 p hp).2 c hc).2⟩, (f32 p hp).1⟩
    unfold piecesT at hp
    rw [hnr] at hp
    simp only [List.mem_append] at hp
    rcases hp with hp | hp | hp | hp | hp
    · exact hmr p hp
    · exact hN p hp
    · rw [List.mem_singleton.mp hp]; exact he
    · exact hN p hp
    · split at hp
      · rw [List.mem_singleton.mp hp]; exact he
      · cases hp
  have hlen : (piecesT deck w count last m shut).length ≤ 16 ∧ 12 / w ≤ (piecesT deck w count last m shut).length ∧ 2 ≤ (piecesT deck w count last m shut).length := by
    unfold piecesT
    rw [hnr]
    have : (if shut = true then [([] : T)] else []).length ≤ 1 := by split <;> simp
    simp only [List.length_append, markRows, sufRows_length, hrl, List.length_singleton]
    (first | lia | omega)
  have hD : ∀ o, o = [10] ∨ o = [13, 10] → (piecesT deck w count last m shut).flatMap (dl o) = joinT o (linesOf deck (List.replicate count 110 ++ [last]) shut) ++ o := by
    intro o ho
    rw [lines_flat]
    unfold piecesT
    rw [hnr]
    simp only [List.flatMap_append, f2' o ho]
    rw [rows_map, rows_dl H.last.1 H.last.2 hcb hcl, hcf]
    have hz : [([] : T)].flatMap (dl o) = o := by simp [dl, rstripT, decR]
    rw [hz]
    cases shut
    · simp
    · simp [hz]
  have hnb : ∀ p ∈ piecesT deck w count last m shut, NoBr p := fun p hp c hc => ((hrows p hp).1 c hc).2
  refine ⟨?_, ?_, ?_, ?_, ?_, hrows, hlen⟩
  · have hmr0 : markRows (rowsT (deck.map code) w) ≠ [] := by
      intro e
      have := congrArg List.length e
      simp [sufRows_length, hrl] at this; (first | lia | omega)
    have hdn : ∀ c ∈ deck, c ≠ 10 ∧ c ≠ 13 := fun c hc => ⟨(H.sign c hc).2.1, (H.sign c hc).2.2.1⟩
    have hnn : ∀ c ∈ List.replicate count 110 ++ [last], c ≠ 10 ∧ c ≠ 13 := by
      intro c hc
      rcases List.mem_append.mp hc with hc | hc
      · rw [List.eq_of_mem_replicate hc]; decide
      · rw [List.mem_singleton.mp hc]; (first | lia | omega)
    have hL : ∀ r ∈ (linesOf deck (List.replicate count 110 ++ [last]) shut).map trans, NoBr r := by
      intro r hr
      obtain ⟨y, hy, rfl⟩ := List.mem_map.mp hr
      refine trans_nobr ?_
      unfold linesOf at hy
      simp only [List.mem_append, List.mem_cons, List.mem_nil_iff, or_false] at hy
      rcases hy with (rfl | rfl | rfl | rfl) | hy
      · exact hdn
      · exact hnn
      · simp
      · exact hnn
      · split at hy
        · rw [List.mem_singleton.mp hy]; simp
        · cases hy
    have hne : joinT mark (linesOf deck (List.replicate count 110 ++ [last]) shut) ≠ [] := by
      have : deck ≠ [] := by intro e; have := H.len; rw [e] at this; cases this
      unfold linesOf
      simp [joinT, this]
    unfold bodyEnc
    rw [if_neg hne, trans_join hmk, splitL_join hmk _ hL]
    have htn := trans_note (count := count) hlast
    have hen0 : encLine m eol (List.replicate count 110 ++ [last]) ≠ [] := by
      intro e
      have := encR_ne m eol (List.replicate count 110 ++ [last]).length (List.replicate count 110 ++ [last])
      exact this e
    have hsw : joinT eol (encLine m eol (List.replicate count 110 ++ [last])) = joinT eol nr := f11.trans f12.symm
    have hmrow := deck_enc (eol := eol) H hw hq hm
    have henil : encLine m eol [] = [[]] := rfl
    have htnil : trans [] = [] := rfl
    have hend : ∀ c : T, joinT eol (markRows (rowsT (deck.map code) w) ++ (encLine m eol (List.replicate count 110 ++ [last]) ++ ([[]] ++ (encLine m eol (List.replicate count 110 ++ [last]) ++ (if shut then [[]] else []))))) = joinT eol (markRows (rowsT (deck.map code) w) ++ (nr ++ ([[]] ++ (nr ++ (if shut then [[]] else []))))) := fun _ => by
      rw [joinT_swap hen0 hnr0 hsw]
      have := joinT_swap (a := markRows (rowsT (deck.map code) w) ++ nr ++ [[]]) (c := if shut = true then [[]] else []) hen0 hnr0 hsw
      simpa only [List.append_assoc] using this
    unfold piecesT
    rw [hnr, ← hend []]
    unfold linesOf
    cases shut with
    | true =>
      have e1 : ([deck, List.replicate count 110 ++ [last], [], List.replicate count 110 ++ [last]] ++ (if true = true then [[]] else [])).map trans = [trans deck, List.replicate count 110 ++ [last], [], List.replicate count 110 ++ [last]] ++ [[]] := by simp only [if_true, List.map_append, List.map_cons, List.map_nil, htn, htnil]
      rw [e1, endsBr_join_nil hmk _ (by simp)]
      rw [show (([trans deck, List.replicate count 110 ++ [last], [], List.replicate count 110 ++ [last]] ++ [[]] : List T)).getLast? = some [] by simp, if_pos rfl, List.dropLast_concat]
      simp only [List.flatMap_cons, List.flatMap_nil, hmrow, henil, if_true, List.append_nil, List.append_assoc]
    | false =>
      have e1 : ([deck, List.replicate count 110 ++ [last], [], List.replicate count 110 ++ [last]] ++ (if false = true then [[]] else [])).map trans = [trans deck, List.replicate count 110 ++ [last], []] ++ [List.replicate count 110 ++ [last]] := by simp only [Bool.false_eq_true, if_false, List.append_nil, List.map_cons, List.map_nil, htn, htnil]; rfl
      rw [e1, endsBr_join _ (by simp), endsBr_nobr hnn]
      rw [if_neg (by simp)]
      simp only [List.flatMap_append, List.flatMap_cons, List.flatMap_nil, hmrow, henil, Bool.false_eq_true, if_false, List.append_nil, List.append_assoc]
  · have hmr0 : markRows (rowsT (deck.map code) w) ≠ [] := by
      intro e
      have := congrArg List.length e
      simp [sufRows_length, hrl] at this; (first | lia | omega)
    unfold piecesT expT
    rw [hnr, joinT_append hmr0 (by simp [hnr0]), joinT_append hnr0 (by simp), joinT_append (by simp) (by simp [hnr0]), f12, sufRows_join]
    have hz : joinT eol [([] : T)] = [] := rfl
    rw [hz]
    cases shut with
    | true =>
      rw [if_pos rfl, joinT_append hnr0 (by simp), f12, hz]
      simp
    | false =>
      rw [if_neg (by simp), List.append_nil, f12]
      simp
  · exact decS_join hel hnb (hD _ (.inl rfl)) hlen.2.2
  · rw [← sufRows_join]
    refine decS_join hel (fun p hp => ?_) ((sufRows_dl _).trans (hD _ hek)) (by rw [sufRows_length]; exact hlen.2.2)
    obtain ⟨q, hq, e⟩ := sufRows_mem hp
    rcases e with rfl | rfl
    · exact hnb _ hq
    · intro c hc
      rcases List.mem_append.mp hc with hc | hc
      · exact hnb _ hq c hc
      · simp at hc; (first | lia | omega)
  · have h1 : (piecesT deck w count last m shut).take (12 / w) = markRows (rowsT (deck.map code) w) := by
      unfold piecesT
      rw [List.take_append_of_le_length (by simp [sufRows_length, hrl])]
      exact List.take_of_length_le (by simp [sufRows_length, hrl])
    rw [h1, rows_map]
    exact rows_read H.last.1 H.last.2 (fun l hl => ⟨hcb l hl, fun c hc => ((H.sign c (chunks_mem hl c hc)).2.1), by have := chunks_len hl H.len hw; (first | lia | omega)⟩) hcl (by intro e; have := congrArg List.length e; simp [chunksT] at this; (first | lia | omega))
end
section
noncomputable def takenT (deck : T) (width i : Nat) : T := (List.range i).flatMap fun c => (List.range (12 / width)).map fun j => deck.getD (j * width + c) 0
noncomputable abbrev dealtT (deck : T) (width : Nat) : T := takenT deck width width
/-! ### the deals -/
noncomputable def perm (t : Nat) : T := (List.range 12).map fun p => if p = 11 then 11 else p * t ^ 9 % 11
theorem perm_deal : ∀ t < 11, 1 ≤ t → ∀ w ∈ [6, 4, 3], dealtT (perm t) w = perm (t * (12 / w) % 11) ∧ 1 ≤ t * (12 / w) % 11 := by decide +kernel
theorem perm_one : perm 1 = [0, 1, 2, 3, 4, 5, 6, 7, 8, 9, 10, 11] := by decide
noncomputable def posT (t i : Nat) : Nat := if i = 11 then 11 else i * t % 11
theorem perm_pos1 : ∀ t < 11, 1 ≤ t → ∀ i < 12, (perm t)[posT t i]? = some i ∧ posT t i < 12 := by decide +kernel
theorem perm_pos2 : ∀ t < 11, 1 ≤ t → ∀ i < 12, ∀ j < 12, (perm t)[j]? = some i → j = posT t i := by decide +kernel
theorem perm_pos (t : Nat) (ht : t < 11) (h1 : 1 ≤ t) (i : Nat) (hi : i < 12) : (perm t)[posT t i]? = some i ∧ posT t i < 12 ∧ ∀ j < 12, (perm t)[j]? = some i → j = posT t i := ⟨(perm_pos1 t ht h1 i hi).1, (perm_pos1 t ht h1 i hi).2, perm_pos2 t ht h1 i hi⟩
theorem perm_len (t : Nat) : (perm t).length = 12 := by simp [perm]
theorem perm_lt : ∀ t < 11, 1 ≤ t → ∀ j < 12, ∃ i < 12, (perm t)[j]? = some i := by decide +kernel
theorem deal_map (f : Nat → Nat) {idx : T} {w : Nat} (h : idx.length = 12) (hw : w = 6 ∨ w = 4 ∨ w = 3) : dealtT (idx.map f) w = (dealtT idx w).map f := by
  obtain ⟨c0, c1, c2, c3, c4, c5, c6, c7, c8, c9, c10, c11, rfl⟩ := twelve h
  rcases hw with rfl | rfl | rfl <;> rfl
/-- the deck, turned -/
noncomputable def turnT (deck : T) (t : Nat) : T := (perm t).map fun i => deck.getD i 0
theorem turn_one {deck : T} (h : deck.length = 12) : turnT deck 1 = deck := by
  obtain ⟨c0, c1, c2, c3, c4, c5, c6, c7, c8, c9, c10, c11, rfl⟩ := twelve h
  unfold turnT
  rw [perm_one]; rfl
theorem turn_deal {deck : T} {t w : Nat} (ht : t < 11) (h1 : 1 ≤ t) (hw : w = 6 ∨ w = 4 ∨ w = 3) : dealtT (turnT deck t) w = turnT deck (t * (12 / w) % 11) ∧ 1 ≤ t * (12 / w) % 11 := by
  unfold turnT
  rw [deal_map _ (perm_len t) hw]
  have := perm_deal t ht h1 w (by rcases hw with rfl | rfl | rfl <;> simp)
  rw [this.1]
  exact ⟨rfl, this.2⟩
theorem turn_mem {deck : T} {t c : Nat} (hd : deck.length = 12) (ht : t < 11) (h1 : 1 ≤ t) (h : c ∈ turnT deck t) : c ∈ deck := by
  unfold turnT at h
  obtain ⟨i, hi, rfl⟩ := List.mem_map.mp h
  obtain ⟨j, hj⟩ := List.getElem?_of_mem hi
  have hj12 : j < 12 := by have := (List.getElem?_eq_some_iff.mp hj).1; rw [perm_len] at this; exact this
  obtain ⟨i', hi', e⟩ := perm_lt t ht h1 j hj12
  rw [hj] at e; cases e
  rw [List.getD_eq_getElem?_getD, List.getElem?_eq_getElem (by (first | lia | omega))]
  exact List.getElem_mem _
theorem turn_ok {bare : Bool} {deck : T} {t : Nat} (H : DeckOk bare deck) (ht : t < 11) (h1 : 1 ≤ t) : DeckOk bare (turnT deck t) where
  len := by simp [turnT, perm_len]
  sign c hc := H.sign c (turn_mem H.len ht h1 hc)
  last := by
    have h := (perm_pos t ht h1 11 (by decide)).1
    have e : (turnT deck t).getD 11 0 = deck.getD 11 0 := by
      unfold turnT
      rw [List.getD_eq_getElem?_getD, List.getElem?_map, show (perm t)[11]? = some 11 from h]; rfl
    rw [e]; exact H.last
noncomputable def InjT (deck : T) : Prop := ∀ i < 12, ∀ j < 12, deck.getD i 0 = deck.getD j 0 → i = j
/-- where a sign lies in the deck laid twice -/
theorem turn_index {deck : T} {t i : Nat} (hd : deck.length = 12) (hi : InjT deck) (ht : t < 11) (h1 : 1 ≤ t) (hi12 : i < 12) :
    (turnT deck t ++ turnT deck t)[posT t i]? = some (deck.getD i 0) ∧ ∀ j < posT t i, (turnT deck t ++ turnT deck t)[j]? ≠ some (deck.getD i 0) := by
  obtain ⟨p1, p2, p3⟩ := perm_pos t ht h1 i hi12
  have hl : (turnT deck t).length = 12 := by simp [turnT, perm_len]
  constructor
  · rw [List.getElem?_append_left (by (first | lia | omega))]
    unfold turnT
    rw [List.getElem?_map, p1]; rfl
  · intro j hj e
    rw [List.getElem?_append_left (by (first | lia | omega))] at e
    unfold turnT at e
    rw [List.getElem?_map] at e
    obtain ⟨x, hx, e⟩ := Option.map_eq_some_iff.mp e
    obtain ⟨i', hi', e'⟩ := perm_lt t ht h1 j (by (first | lia | omega))
    rw [hx] at e'; cases e'
    have := hi x hi' i hi12 e
    subst this
    have := p3 j (by (first | lia | omega)) hx
    (first | lia | omega)
/-! ### the deck that is drawn -/
noncomputable def kindsT (bare : Bool) : T := if bare then (List.range 28).map (· + 33) ++ (List.range 65).map (· + 62) else List.range 9 ++ [11, 12] ++ (List.range 18).map (· + 14) ++ [61] ++ (List.range 129).map (· + 127)
noncomputable def kindsN (bare : Bool) : Nat := if bare then 93 else 159
noncomputable def drawT (bare : Bool) (s a : Nat) : T := (List.range 12).map fun p => (kindsT bare).getD ((s + a * p) % kindsN bare) 0
noncomputable def nodupB : T → Bool
  | [] => true
  | x :: r => r.all (fun y => y != x) && nodupB r
noncomputable def drawB (bare : Bool) : Bool := (List.range (kindsN bare)).all fun s => [1, 2, 4, 5].all fun a => nodupB (drawT bare s a)
theorem draw_t : drawB true = true := by decide +kernel
theorem draw_f : drawB false = true := by decide +kernel
theorem kinds_len (bare : Bool) : (kindsT bare).length = kindsN bare := by cases bare <;> rfl
theorem kinds_ok : ∀ bare, ∀ c ∈ kindsT bare, c < 256 ∧ c ≠ 10 ∧ c ≠ 13 ∧ pl c = bare ∧ c ≠ 32 ∧ c ≠ 9 := by decide +kernel
theorem nodup_at : ∀ {l : T}, nodupB l = true → ∀ (i j : Nat) (x : Nat), l[i]? = some x → l[j]? = some x → i = j
  | [], _, _, _, _, h, _ => by simp at h
  | y :: r, h, i, j, x, hi, hj => by
    simp only [nodupB, Bool.and_eq_true, List.all_eq_true, bne_iff_ne] at h
    cases i with
    | zero =>
      cases j with
      | zero => rfl
      | succ j =>
        simp at hi hj
        exact absurd hi.symm (h.1 x (List.mem_of_getElem? hj))
    | succ i =>
      cases j with
      | zero =>
        simp at hi hj
        exact absurd hj.symm (h.1 x (List.mem_of_getElem? hi))
      | succ j =>
        simp at hi hj
        rw [nodup_at h.2 i j x hi hj]
theorem draw_mod (bare : Bool) (s a : Nat) : drawT bare s a = drawT bare (s % kindsN bare) a := by
  unfold drawT
  refine List.map_congr_left fun p _ => ?_
  rw [Nat.mod_add_mod]
theorem draw_inj {bare : Bool} {s a : Nat} (ha : a = 1 ∨ a = 2 ∨ a = 4 ∨ a = 5) : InjT (drawT bare s a) := by
  rw [draw_mod]
  have hn : 0 < kindsN bare := by cases bare <;> decide
  have hb : nodupB (drawT bare (s % kindsN bare) a) = true := by
    have hs : s % kindsN bare ∈ List.range (kindsN bare) := List.mem_range.mpr (Nat.mod_lt _ hn)
    have hd : drawB bare = true := by cases bare; exact draw_f; exact draw_t
    exact List.all_eq_true.mp (List.all_eq_true.mp hd _ hs) a (by rcases ha with rfl | rfl | rfl | rfl <;> simp)
  intro i hi j hj e
  have hl : (drawT bare (s % kindsN bare) a).length = 12 := by simp [drawT]
  generalize drawT bare (s % kindsN bare) a = l at *
  rw [List.getD_eq_getElem?_getD, List.getD_eq_getElem?_getD, List.getElem?_eq_getElem (by (first | lia | omega)), List.getElem?_eq_getElem (by (first | lia | omega))] at e
  simp only [Option.getD_some] at e
  exact nodup_at hb i j _ (List.getElem?_eq_getElem (by (first | lia | omega))) (by rw [e]; exact List.getElem?_eq_getElem (by (first | lia | omega)))
theorem draw_mem {bare : Bool} {s a c : Nat} (h : c ∈ drawT bare s a) : c ∈ kindsT bare := by
  unfold drawT at h
  obtain ⟨p, _, rfl⟩ := List.mem_map.mp h
  have hn : 0 < kindsN bare := by cases bare <;> decide
  rw [List.getD_eq_getElem?_getD, List.getElem?_eq_getElem (by rw [kinds_len]; exact Nat.mod_lt _ hn)]
  exact List.getElem_mem _
/-- with the blank -/
noncomputable def blankT (l : T) (spot b : Nat) : T := l.take spot ++ [b] ++ l.drop (spot + 1)
theorem blank_at {l : T} {spot b : Nat} (hs : spot < l.length) (j : Nat) : (blankT l spot b)[j]? = if j = spot then some b else l[j]? := by
  unfold blankT
  have e : l.take spot ++ [b] ++ l.drop (spot + 1) = l.set spot b := by
    rw [List.set_eq_take_append_cons_drop, if_pos hs]; simp
  rw [e, List.getElem?_set]
  by_cases h : spot = j
  · subst h; simp [hs]
  · rw [if_neg h, if_neg (Ne.symm h)]
noncomputable def deckT (bare : Bool) (s a spot b : Nat) : T := if bare then blankT (drawT bare s a) spot b else drawT bare s a
theorem deck_ok {bare : Bool} {s a spot b : Nat} (ha : a = 1 ∨ a = 2 ∨ a = 4 ∨ a = 5) (hs : spot < 11) (hb : b = 32 ∨ b = 9) : DeckOk bare (deckT bare s a spot b) ∧ InjT (deckT bare s a spot b) := by
  have hl : (drawT bare s a).length = 12 := by simp [drawT]
  have hi := draw_inj (bare := bare) (s := s) ha
  have hm : ∀ c ∈ drawT bare s a, c < 256 ∧ c ≠ 10 ∧ c ≠ 13 ∧ pl c = bare ∧ c ≠ 32 ∧ c ≠ 9 := fun c hc => kinds_ok bare c (draw_mem hc)
  have at11 : (drawT bare s a).getD 11 0 ∈ drawT bare s a := by
    rw [List.getD_eq_getElem?_getD, List.getElem?_eq_getElem (by (first | lia | omega))]; exact List.getElem_mem _
  unfold deckT
  cases bare with
  | false =>
    simp only [Bool.false_eq_true, if_false]
    exact ⟨⟨hl, fun c hc => ⟨(hm c hc).1, (hm c hc).2.1, (hm c hc).2.2.1, (hm c hc).2.2.2.1⟩, (hm _ at11).2.2.2.2⟩, hi⟩
  | true =>
    simp only [if_true]
    generalize drawT true s a = l at *
    have hat := blank_at (l := l) (spot := spot) (b := b) (by (first | lia | omega))
    have hgd : ∀ j, (blankT l spot b).getD j 0 = if j = spot then b else l.getD j 0 := fun j => by
      rw [List.getD_eq_getElem?_getD, hat j]
      split
      · rfl
      · rw [List.getD_eq_getElem?_getD]
    have hlen : (blankT l spot b).length = 12 := by unfold blankT; simp; (first | lia | omega)
    refine ⟨⟨hlen, fun c hc => ?_, ?_⟩, ?_⟩
    · obtain ⟨j, hj⟩ := List.getElem?_of_mem hc
      rw [hat j] at hj
      split at hj
      · cases hj; rcases hb with rfl | rfl <;> decide
      · have := hm c (List.mem_of_getElem? hj)
        exact ⟨this.1, this.2.1, this.2.2.1, this.2.2.2.1⟩
    · rw [hgd 11, if_neg (by (first | lia | omega))]
      exact (hm _ at11).2.2.2.2
    · intro i h1 j h2 e
      rw [hgd, hgd] at e
      have gm : ∀ x < 12, l.getD x 0 ∈ l := fun x hx => by
        rw [List.getD_eq_getElem?_getD, List.getElem?_eq_getElem (by (first | lia | omega))]; exact List.getElem_mem _
      split at e
      · split at e
        · (first | lia | omega)
        · have := hm _ (gm j h2); (first | lia | omega)
      · split at e
        · have := hm _ (gm i h1); (first | lia | omega)
        · exact hi i h1 j h2 e
end
section
theorem trans_code : ∀ {l : T}, (∀ c ∈ l, c ≠ 10 ∧ c ≠ 13) → trans l = (l.map code).flatten
  | [], _ => rfl
  | c :: r, h => by
    have ih := trans_code (l := r) fun x hx => h x (by simp [hx])
    obtain ⟨h2, h3⟩ := h c (by simp)
    unfold trans at ih ⊢
    rw [List.flatMap_cons, ih, List.map_cons, List.flatten_cons]
    congr 1
    simp [bm, code, h2, h3]
theorem esc_at : ∀ (l : T) (j : Nat), (l.flatMap esc).getD (3 * j + 1) 0 ≠ 61 ∧ (l.flatMap esc).getD (3 * j + 2) 0 ≠ 61
  | [], j => by simp
  | c :: r, 0 => by
    rw [List.flatMap_cons]
    exact ⟨hexU_ne _, hexU_ne _⟩
  | c :: r, j + 1 => by
    have ih := esc_at r j
    rw [List.flatMap_cons, show 3 * (j + 1) + 1 = (3 * j + 1) + 3 by (first | lia | omega), show 3 * (j + 1) + 2 = (3 * j + 2) + 3 by (first | lia | omega)]
    exact ih
theorem esc_drop : ∀ (j : Nat) (l : T), (l.flatMap esc).drop (3 * j) = (l.drop j).flatMap esc
  | 0, _ => rfl
  | j + 1, [] => by simp
  | j + 1, c :: r => by
    have ih := esc_drop j r
    rw [List.flatMap_cons, show 3 * (j + 1) = 3 * j + 3 by (first | lia | omega), List.drop_succ_cons, ← ih]
    rfl
theorem esc_len (l : T) : (l.flatMap esc).length = 3 * l.length := by
  induction l with
  | nil => rfl
  | cons c r ih => rw [List.flatMap_cons, List.length_append, ih]; simp [esc]; (first | lia | omega)
theorem esc_long {l eol : T} (h : 76 < 3 * l.length) : encLine 76 eol (l.flatMap esc) = ((l.flatMap esc).take 75 ++ [61]) :: encLine 76 eol ((l.drop 25).flatMap esc) := by
  rw [← esc_drop 25 l]
  exact enc_plain (by decide) (by rw [esc_len]; exact h) (esc_at l 24).1 (esc_at l 24).2 rfl rfl
theorem esc_fin {l eol : T} {c : Nat} (h : 3 * l.length ≤ 76) (hc : l.getLast? = some c) : encLine 76 eol (l.flatMap esc) = [l.flatMap esc] := by
  refine enc_end (c := hexU (c % 16)) (by rw [esc_len]; exact h) ?_ (hexU_ws _).1 (hexU_ws _).2
  obtain ⟨r, rfl⟩ := List.getLast?_eq_some_iff.mp hc
  rw [List.flatMap_append]
  simp [esc]
noncomputable def rep7 (l : T) : T := (List.replicate 7 l).flatten
theorem rep7_len (l : T) : (rep7 l).length = 7 * l.length := by simp [rep7, List.replicate]; (first | lia | omega)
theorem rep7_mem {l : T} {c : Nat} (h : c ∈ rep7 l) : c ∈ l := by
  unfold rep7 at h
  obtain ⟨y, hy, hc⟩ := List.mem_flatten.mp h
  rw [List.eq_of_mem_replicate hy] at hc; exact hc
theorem rep7_last {l : T} {c : Nat} (h : l.getLast? = some c) (j : Nat) (hj : j < (rep7 l).length) : ((rep7 l).drop j).getLast? = some c := by
  rw [List.getLast?_drop, if_neg (by (first | lia | omega))]
  obtain ⟨r, rfl⟩ := List.getLast?_eq_some_iff.mp h
  have : rep7 (r ++ [c]) = (r ++ [c] ++ (r ++ [c]) ++ (r ++ [c]) ++ (r ++ [c]) ++ (r ++ [c]) ++ (r ++ [c]) ++ r) ++ [c] := by simp [rep7, List.replicate]
  rw [this, List.getLast?_append]; rfl
theorem rep7_code (l : T) : ((rep7 l).map code).flatten = rep7 ((l.map code).flatten) := by
  simp [rep7, List.replicate]
/-- the line's rows -/
noncomputable def rows75 (l : T) : List T := (List.range ((l.length + 74) / 75)).map fun j => (l.drop (j * 75)).take 75
theorem final_enc {bare : Bool} {deck : T} (H : DeckOk bare deck) : bodyEnc (rep7 deck) 76 [10] = joinT [61, 10] (rows75 (rep7 ((deck.map code).flatten))) := by
  have hl := H.len
  have h84 : (rep7 deck).length = 84 := by rw [rep7_len, hl]
  have hne : rep7 deck ≠ [] := by intro e; rw [e] at h84; cases h84
  have hnb : ∀ c ∈ rep7 deck, c ≠ 10 ∧ c ≠ 13 := fun c hc => ⟨(H.sign c (rep7_mem hc)).2.1, (H.sign c (rep7_mem hc)).2.2.1⟩
  have hlast : deck.getLast? = some (deck.getD 11 0) := by
    obtain ⟨c0, c1, c2, c3, c4, c5, c6, c7, c8, c9, c10, c11, rfl⟩ := twelve hl
    rfl
  have htn : trans (rep7 deck) ≠ [] := by
    rw [trans_code hnb]
    intro e
    have := (codes_len (rep7 deck)).1
    rw [e, h84] at this; cases this
  have hb : bodyEnc (rep7 deck) 76 [10] = joinT [10] (encLine 76 [10] (trans (rep7 deck))) := by
    unfold bodyEnc
    rw [if_neg hne, splitL_nobr _ [] (trans_nobr hnb), endsBr_nobr (trans_nobr hnb), List.nil_append, if_neg htn]
    simp
  rw [hb, ← rep7_code]
  cases bare with
  | true =>
    have hp : ∀ c ∈ rep7 deck, pl c = true := fun c hc => (H.sign c (rep7_mem hc)).2.2.2
    have hcd : ((rep7 deck).map code).flatten = rep7 deck := by rw [code_pl hp]; induction rep7 deck with
      | nil => rfl
      | cons a r ih => rw [List.map_cons, List.flatten_cons, ih]; rfl
    have hgd : ∀ j < 84, (rep7 deck).getD j 0 ≠ 61 := fun j hj => by
      rw [List.getD_eq_getElem?_getD, List.getElem?_eq_getElem (by (first | lia | omega))]
      exact pl_ne (hp _ (List.getElem_mem _))
    rw [trans_pl hp, hcd, enc_plain (m := 76) (by decide) (by rw [h84]; decide) (hgd 73 (by decide)) (hgd 74 (by decide)) (enc_end (by rw [List.length_drop, h84]; decide) (rep7_last hlast 75 (by rw [h84]; decide)) H.last.1 H.last.2) rfl]
    unfold rows75
    rw [h84]
    have e9 : ((rep7 deck).drop 75).take 75 = (rep7 deck).drop 75 := List.take_of_length_le (by rw [List.length_drop, h84]; decide)
    show (rep7 deck).take 75 ++ [61] ++ [10] ++ (rep7 deck).drop 75 = (rep7 deck).take 75 ++ [61, 10] ++ ((rep7 deck).drop 75).take 75
    rw [e9]; simp
  | false =>
    have hp : ∀ c ∈ rep7 deck, pl c = false := fun c hc => (H.sign c (rep7_mem hc)).2.2.2
    have hcd : ((rep7 deck).map code).flatten = (rep7 deck).flatMap esc := by rw [code_np hp, List.flatMap_def]
    rw [trans_code hnb, hcd]
    generalize hq : rep7 deck = l at *
    have hl2 : ∀ j, j < 84 → (l.drop j).getLast? = some (deck.getD 11 0) := fun j hj => by rw [← hq]; exact rep7_last hlast j (by rw [hq, h84]; exact hj)
    have e1 := esc_long (l := l) (eol := [10]) (by (first | lia | omega))
    have e2 := esc_long (l := l.drop 25) (eol := [10]) (by rw [List.length_drop]; (first | lia | omega))
    have e3 := esc_long (l := l.drop 50) (eol := [10]) (by rw [List.length_drop]; (first | lia | omega))
    have e4 := esc_fin (l := l.drop 75) (eol := [10]) (by rw [List.length_drop]; (first | lia | omega)) (hl2 75 (by (first | lia | omega)))
    rw [List.drop_drop] at e2 e3
    rw [e1, e2, e3, e4]
    unfold rows75
    rw [esc_len, h84]
    have d1 := esc_drop 25 l
    have d2 := esc_drop 50 l
    have d3 := esc_drop 75 l
    have e9 : ((l.drop 75).flatMap esc).take 75 = (l.drop 75).flatMap esc := List.take_of_length_le (by rw [esc_len, List.length_drop]; (first | lia | omega))
    show (l.flatMap esc).take 75 ++ [61] ++ [10] ++ (((l.drop 25).flatMap esc).take 75 ++ [61] ++ [10] ++ (((l.drop 50).flatMap esc).take 75 ++ [61] ++ [10] ++ (l.drop 75).flatMap esc)) = (l.flatMap esc).take 75 ++ [61, 10] ++ (((l.flatMap esc).drop (3 * 25)).take 75 ++ [61, 10] ++ (((l.flatMap esc).drop (3 * 50)).take 75 ++ [61, 10] ++ ((l.flatMap esc).drop (3 * 75)).take 75))
    rw [d1, d2, d3, e9]
    simp
end
section
local macro_rules | `(tactic| wtm_at "ku_mem") => `(tactic| first | exact List.Mem.head _ | (refine' List.Mem.tail _ ?_; wtm_at "ku_mem"))
local macro_rules | `(tactic| wtm_at "ku_cell") => `(tactic| ((case kcx => rfl); (case kck => rfl); (case kcd => decide); (case kcc => rfl); (case kcn => with_reducible assumption); (case kcm => wtm_at "ku_mem"); (case kco => with_reducible assumption)))
local macro_rules | `(tactic| wtm_at "ku_cname") => `(tactic| ((with_reducible show wpAny _ _ (eval (PySem.Expr.Name _ _) (compEnvC _ _ _ _)) _ _ _); first
  | (refine kc_it (by with_reducible assumption) (by with_reducible assumption) ?_ (by rfl) (by rfl) (by decide))
  | (refine kc_glob (by with_reducible assumption) (by with_reducible assumption) (by with_reducible assumption) ?_ (by rfl) (by rfl) (by decide))
  | (refine kc_bi (by with_reducible assumption) (by with_reducible assumption) (by decide) (by boot_by_name) ?_ (by decide) (by rfl) (by rfl) (by decide))
  | (refine' kc_cell (c := _) (o := _) (v := _) ?kcn ?kcm ?kco ?_ ?kcc ?kcx ?kck ?kcd; wtm_at "ku_cell")))
local macro_rules | `(tactic| wtm_at "ku_name2") => `(tactic| ((with_reducible show wpAny _ _ (eval (PySem.Expr.Name _ _) _) _ _ _); (refine' k_cell (c := _) (o := _) (v := _) ?kcn ?kcm ?kco ?_ ?kcc ?kcx ?kck ?kcd; wtm_at "ku_cell")))
local macro_rules | `(tactic| wtm_at "ku") => `(tactic| first
  | (with_reducible first | refine k_consT ?_ | refine k_nil ?_)
  | (with_reducible refine k_nextT ?_; intro _)
  | (with_reducible first | refine k_retT ?_ | refine k_next ?_ | refine k_ret ?_)
  | ((with_reducible show wpAny _ _ (exec (Stmt.Assign [PySem.Expr.Name _ _] _ _) _) _ _ _); refine k_assign (hs := ?hsw) ?_; (case hsw => rfl))
  | (with_reducible refine k_strT (by wtm_at "ku_txt") ?_; intro _ _ _)
  | wtm_at "ku_base" | wtm_at "ku_op" | wtm_at "ku_cname" | wtm_at "ku_fin" | wtm_at "ku_name2")
variable {w : World} {A : Around} {E : Value → Shared → Prop} {s₀ : Shared} {h : Heap} {k : Nat} {d : Ad} {mg mb : Str → Option Value}
theorem joinT_len {e : T} {B : Nat} : ∀ {ys : List T}, (∀ y ∈ ys, y.length ≤ B) → (joinT e ys).length ≤ ys.length * (B + e.length)
  | [], _ => by simp [joinT]
  | [x], h => by
    have := h x (by simp)
    show x.length ≤ _
    simp; (first | lia | omega)
  | x :: y :: r, h => by
    rw [joinT_cons (by simp)]
    have h1 := h x (by simp)
    have h2 := joinT_len (e := e) (ys := y :: r) fun z hz => h z (by simp [List.mem_cons.mp hz])
    simp only [List.length_append, List.length_cons] at h2 ⊢
    have h3 : (r.length + 1 + 1) * (B + e.length) = (r.length + 1) * (B + e.length) + (B + e.length) := Nat.succ_mul _ _
    (first | lia | omega)
theorem l_cut {tr : Sem Value} {Q : Value → Shared → Prop} {h₀ : Heap} {L : Addr} {m : Str → Option Value} {news : List (Addr × Obj)} (ys : List T) (_F : Fr h₀ L h m) (_N : News h₀ L h news)
    (h1 : wpAny (model prog w) A tr (fun v s' => ∃ R h' k' ls, v = .ref R ∧ s' = S s₀ h' k' ∧ ls.map (·.1) = ys.map mkS ∧ Fr h₀ L h' m ∧ News h₀ L h' ((R, listOf (strValues ls).toArray 0) :: news)) E (S s₀ h k))
    (h2 : ∀ R h' k' ls, ls.map (·.1) = ys.map mkS → Fr h₀ L h' m → News h₀ L h' ((R, listOf (strValues ls).toArray 0) :: news) → Q (.ref R) (S s₀ h' k')) : wpAny (model prog w) A tr Q E (S s₀ h k) :=
  k_cut _ h1 fun v s' x => by obtain ⟨R, h', k', ls, rfl, rfl, e, F, N⟩ := x; exact h2 R h' k' ls e F N
/-- an own def, called: the state stands -/
theorem k_own {f : Addr} {i : Nat} {dV : List Value} {e : PySem.Expr} {es : List PySem.Expr} {env : Env} {pos : Pos} {h₀ : Heap} {L : Addr} {m : Str → Option Value} {news : List (Addr × Obj)} {Q : Value → Shared → Prop} (H : FnIs h₀ i f dV) (_F : Fr h₀ L h m) (_N : News h₀ L h news)
    (hq : wpAny (model prog w) A (spliced (backTo pos (starEach (e :: es) env))) (fun vs s₁ => ∃ h' k', s₁ = S s₀ h' k' ∧ Fr h₀ L h' m ∧ News h₀ L h' news ∧ wpAny (model prog w) A (call (.ref f) vs) Q E s₁) E (S s₀ h k))
    (he : starEach (e :: es) env = (false, eval e env) :: starEach es env := by rfl) :
    wpAny (model prog w) A (callWith pos (.ref f) [] (backTo pos (starEach (e :: es) env)) []) Q E (S s₀ h k) :=
  k_with_fn H (wpAny_mono hq (fun vs s₁ x => by obtain ⟨h', k', rfl, F, N, q⟩ := x; exact ⟨⟨h', k', rfl, F.keep⟩, q⟩) fun _ _ x => x) he
theorem o_lsadd {D D2 L : Addr} {h₀ : Heap} {m : Str → Option Value} {news : List (Addr × Obj)} {la lb : List (Str × Tok)} {Q : Value → Shared → Prop} (F : Fr h₀ L h m) (N : News h₀ L h news) (h1 : h.IsList D (strValues la).toArray) (h2 : h.IsList D2 (strValues lb).toArray) (hsz : la.length + lb.length ≤ 10000)
    (hq : ∀ R h' LS, LS.map (·.1) = la.map (·.1) ++ lb.map (·.1) → Fr h₀ L h' m → News h₀ L h' ((R, listOf (strValues LS).toArray 0) :: news) → Q (.ref R) (S s₀ h' k)) : wpAny (model prog w) A (binaryOp .Add (.ref D) (.ref D2)) Q E (S s₀ h k) := by
  refine o_ladd F N h1 h2 (by simpa [strValues] using hsz) fun R h' F' N' => hq R h' (la ++ lb) (List.map_append ..) F' ?_
  have : strValues la ++ strValues lb = strValues (la ++ lb) := by simp [strValues]
  rw [this] at N'; exact N'
theorem linesOf_mem {deck note y : T} {shut : Bool} (h : y ∈ linesOf deck note shut) : y = deck ∨ y = note ∨ y = [] := by
  unfold linesOf at h
  rcases List.mem_append.mp h with h | h
  · simp at h; rcases h with h | h | h | h
    · exact .inl h
    · exact .inr (.inl h)
    · exact .inr (.inr h)
    · exact .inr (.inl h)
  · split at h
    · exact .inr (.inr (List.mem_singleton.mp h))
    · simp at h
theorem linesOf_len (deck note : T) (shut : Bool) : (linesOf deck note shut).length ≤ 5 := by unfold linesOf; split <;> simp
theorem linesOf_short {deck note : T} {shut : Bool} (h1 : deck.length = 12) (h2 : note.length ≤ 60) : ∀ y ∈ linesOf deck note shut, y.length ≤ 60 := by
  intro y hy
  rcases linesOf_mem hy with rfl | rfl | rfl
  · (first | lia | omega)
  · exact h2
  · simp
theorem linesOf_lt {deck note mark : T} {shut : Bool} (h1 : ∀ c ∈ deck, c < 256) (h2 : ∀ c ∈ note, c < 256) (h3 : ∀ c ∈ mark, c < 256) : ∀ c ∈ joinT mark (linesOf deck note shut), c < 256 := by
  intro c hc
  rcases mem_joinT hc with hc | ⟨r, hr, hc⟩
  · exact h3 c hc
  · rcases linesOf_mem hr with e | e | e
    · exact h1 c (e ▸ hc)
    · exact h2 c (e ▸ hc)
    · rw [e] at hc; simp at hc
theorem linesOf_size {deck note mark : T} {shut : Bool} (h1 : deck.length = 12) (h2 : note.length ≤ 60) (h3 : mark.length ≤ 2) : (joinT mark (linesOf deck note shut)).length ≤ 300 := by
  unfold linesOf
  split
  · simp only [List.cons_append, List.nil_append, joinT, List.length_append, List.length_nil]; (first | lia | omega)
  · simp only [List.append_nil, joinT, List.length_append, List.length_nil]; (first | lia | omega)
noncomputable def FmCode (v y : Value) : Prop := ∀ c t, v = .str (mkS [c]) t → ∃ t', y = .str (mkS (code c)) t'
theorem neL {L : Addr} : L + 1 + 1 + 1 ≠ L + 1 + 1 ∧ L + 1 + 1 + 1 ≠ L + 1 ∧ L + 1 + 1 ≠ L + 1 := ⟨Nat.succ_ne_self _, Nat.ne_of_gt (Nat.lt_succ_of_lt (Nat.lt_succ_self _)), Nat.succ_ne_self _⟩
theorem k_compF {h₀ : Heap} {cn : Str} {cs : Scope} {L a : Addr} {ccd : Value} {cl : List (Str × Addr)} {m : Str → Option Value} {news : List (Addr × Obj)} {pos px : Pos} {x : Str} {elt iter : PySem.Expr} {scope : Scope} {cl2 : List (Str × Addr)} {Q : Value → Shared → Prop} (_F : Fr h₀ L h m) (_N : News h₀ L h news) (n : Nat) (P : Nat → Value → Prop) (Fm : Value → Value → Prop) (hn : n ≤ 10000)
    (hclos : closureFor scope (envX cn cs L a ccd cl) = pure cl2) (hcell : ∀ y ∈ scope.names, y.2 ≠ .cell) (hkind : scope.kind = .function)
    (hnames : ∀ y ∈ scope.names, y.2 = .local → scope.names.lookup y.1 = some .local) (hx : scope.names.lookup x = some .local)
    (hs : ∀ x, foldedSetIterable iter (envX cn cs L a ccd cl) x = pure x)
    (hit : wpAny (model prog w) A (eval iter (envX cn cs L a ccd cl)) (fun xv s₁ => wpAny (model prog w) A (pyIter xv) (fun it s₂ => CompAt w A s₀ h₀ L m news n P it s₂) E s₁) E (S s₀ h k))
    (helt : EltOk w A h₀ L m news P Fm (envX cn cs L a ccd cl) scope cl2 x elt k)
    (done : ∀ D h' k' (vs ys : List Value) z, Fr h₀ L h' m → News h₀ L h' ((D, listOf ys.toArray z) :: news) → (∀ p ∈ news, p.1 ≠ D) → k ≤ k' → vs.length = n → (∀ j v, vs[j]? = some v → P j v) → Paired Fm vs ys → Q (.ref D) (S s₀ h' k')) :
    wpAny (model prog w) A (eval (.ListComp elt [⟨.Name x px, iter, [], 0⟩] scope pos) (envX cn cs L a ccd cl)) Q E (S s₀ h k) :=
  k_comp n P Fm hn hclos hcell hkind hnames hx hs hit helt done
theorem paired_at {F : Value → Value → Prop} : ∀ {l1 l2 : List Value}, Paired F l1 l2 → l1.length = l2.length ∧ ∀ (j : Nat) (v : Value), l1[j]? = some v → ∃ y, l2[j]? = some y ∧ F v y
  | _, _, .nil => ⟨rfl, fun j v h => by simp at h⟩
  | _, _, .cons h r => by
    obtain ⟨e, ih⟩ := paired_at r
    refine ⟨by simp [e], fun j v hj => ?_⟩
    cases j with
    | zero => simp at hj; subst hj; exact ⟨_, rfl, h⟩
    | succ j => simp at hj ⊢; exact ih j v hj
theorem strs_of : ∀ (zs : List T) (ys : List Value), ys.length = zs.length → (∀ (j : Nat) (z : T), zs[j]? = some z → ∃ t, ys[j]? = some (Value.str (mkS z) t)) → ∃ lc : List (Str × Tok), ys = strValues lc ∧ lc.map (·.1) = zs.map mkS
  | [], [], _, _ => ⟨[], rfl, rfl⟩
  | z :: zs, y :: ys, hl, h => by
    obtain ⟨t, ht⟩ := h 0 z rfl
    simp at ht
    obtain ⟨lc, e1, e2⟩ := strs_of zs ys (by simpa using hl) fun j z' hz => by
      have := h (j + 1) z' (by simpa using hz)
      simpa using this
    exact ⟨(mkS z, t) :: lc, by rw [ht, e1]; rfl, by rw [List.map_cons, e2]; rfl⟩
theorem cods_at {deck : T} {vs ys : List Value} (hlen : vs.length = deck.length) (hP : ∀ (j : Nat) (v : Value), vs[j]? = some v → ∃ c u, deck[j]? = some c ∧ v = .str (mkS [c]) u) (hF : Paired FmCode vs ys) : ∃ lc : List (Str × Tok), ys = strValues lc ∧ lc.map (·.1) = (deck.map code).map mkS := by
  obtain ⟨e, ih⟩ := paired_at hF
  refine strs_of _ _ (by rw [← e, hlen]; simp) fun j z hz => ?_
  rw [List.getElem?_map] at hz
  obtain ⟨c, hc, rfl⟩ := Option.map_eq_some_iff.mp hz
  have hj : j < vs.length := by rw [hlen]; exact (List.getElem?_eq_some_iff.mp hc).1
  obtain ⟨c', u, hc', hv⟩ := hP j vs[j] (List.getElem?_eq_getElem hj)
  rw [hc] at hc'; cases hc'
  obtain ⟨y, hy, hf⟩ := ih j vs[j] (List.getElem?_eq_getElem hj)
  obtain ⟨t', rfl⟩ := hf _ _ hv
  exact ⟨t', hy⟩
/-- place p of a row -/
noncomputable def FmRow (codes : List T) (width : Nat) (v y : Value) : Prop := ∀ (p : Nat) t, v = .int (p : Int) t → ∃ t', y = .str (mkS (((codes.drop p).take width).flatten)) t'
theorem ne_cell {h₀ : Heap} {L R c : Addr} {news : List (Addr × Obj)} {vs : Array Value} {z : Nat} {o : Obj} {v : Option Value} (N : News h₀ L h news) (h1 : (R, listOf vs z) ∈ news) (h2 : (c, o) ∈ news) (ho : o.data = .cell v) : R ≠ c := fun e => by
  have q1 := (N _ h1).1
  have q2 := (N _ h2).1
  rw [e] at q1
  have q3 : some (listOf vs z) = some o := q1.symm.trans q2
  have q4 := congrArg Obj.data (Option.some.inj q3)
  rw [ho] at q4
  cases q4
theorem joinT_nil : ∀ ys : List T, joinT [] ys = ys.flatten
  | [] => rfl
  | [x] => by simp [joinT]
  | x :: y :: r => by rw [joinT_cons (by simp), joinT_nil (y :: r)]; simp
theorem rows_at {codes : List T} {width : Nat} {vs ys : List Value} (hlen : vs.length = 12 / width) (hP : ∀ (j : Nat) (v : Value), vs[j]? = some v → ∃ t, v = .int (j * (width : Int)) t) (hF : Paired (FmRow codes width) vs ys) : ∃ lc : List (Str × Tok), ys = strValues lc ∧ lc.map (·.1) = (rowsT codes width).map mkS := by
  obtain ⟨e, ih⟩ := paired_at hF
  refine strs_of _ _ (by rw [← e, hlen]; simp [rowsT]) fun j z hz => ?_
  unfold rowsT at hz
  rw [List.getElem?_map] at hz
  obtain ⟨j', hj', rfl⟩ := Option.map_eq_some_iff.mp hz
  have hjl : j < 12 / width := by have := (List.getElem?_eq_some_iff.mp hj').1; simpa using this
  have hjj : j' = j := by rw [List.getElem?_range hjl] at hj'; exact (Option.some.inj hj').symm
  subst hjj
  have hj : j' < vs.length := by (first | lia | omega)
  obtain ⟨t, hv⟩ := hP j' vs[j'] (List.getElem?_eq_getElem hj)
  obtain ⟨y, hy, hf⟩ := ih j' vs[j'] (List.getElem?_eq_getElem hj)
  obtain ⟨t', rfl⟩ := hf (j' * width) t (by rw [hv, Int.natCast_mul])
  exact ⟨t', hy⟩
theorem range_facts {width : Nat} (hw : width = 6 ∨ width = 4 ∨ width = 3) : Builtin.Range.small 0 12 (width : Int) = true ∧ Builtin.Range.rangeSize 0 12 (width : Int) = ((12 / width : Nat) : Int) := by
  rcases hw with rfl | rfl | rfl <;> decide
theorem pick_strs {lc : List (Str × Tok)} {x y : Nat} (hy : y ≤ lc.length) (hxy : x ≤ y) : slicePick (strValues lc).toArray (some (x : Int)) (some (y : Int)) none = (strValues ((lc.drop x).take (y - x))).toArray := by
  rw [pick_run (by simpa [strValues] using hy) hxy]; simp [strValues]
theorem row_in {i width : Nat} (hi : i < 12 / width) : i * width + width ≤ 12 := by
  have h1 : (i + 1) * width ≤ (12 / width) * width := Nat.mul_le_mul_right _ hi
  have h2 := Nat.div_mul_le_self 12 width
  rw [Nat.add_mul, Nat.one_mul] at h1
  (first | lia | omega)
theorem rowsT_len {deck : T} {width : Nat} (h : width ≤ 6) : ∀ y ∈ rowsT (deck.map code) width, y.length ≤ 18 := by
  intro y hy
  unfold rowsT at hy
  obtain ⟨j, _, rfl⟩ := List.mem_map.mp hy
  have h1 : ∀ z ∈ ((deck.map code).drop (j * width)).take width, z.length ≤ 3 := by
    intro z hz
    obtain ⟨c, _, rfl⟩ := List.mem_map.mp (List.mem_of_mem_drop (List.mem_of_mem_take hz))
    unfold code; split <;> simp [esc]
  have h2 : (((deck.map code).drop (j * width)).take width).length ≤ width := List.length_take_le ..
  have h3 : ∀ ls : List T, (∀ z ∈ ls, z.length ≤ 3) → ls.flatten.length ≤ 3 * ls.length := by
    intro ls
    induction ls with
    | nil => intro _; simp
    | cons a r ih =>
      intro hz
      have := ih fun z hz' => hz z (by simp [hz'])
      have := hz a (by simp)
      simp only [List.flatten_cons, List.length_append, List.length_cons]; (first | lia | omega)
  have := h3 _ h1
  (first | lia | omega)
theorem rowsT_count {codes : List T} {width : Nat} (h : 3 ≤ width) : (rowsT codes width).length ≤ 4 := by
  unfold rowsT; simp
  exact Nat.div_le_of_le_mul (by (first | lia | omega))
noncomputable def FmDec (v y : Value) : Prop := ∀ r t, v = .str (mkS r) t → ∃ t', y = .str (mkS (decS r [10])) t'
theorem read_at {pieces : List T} {R : Nat} {vs ys : List Value} (hR : R ≤ pieces.length) (hlen : vs.length = R) (hP : ∀ (j : Nat) (v : Value), vs[j]? = some v → ∃ r t, pieces[j]? = some r ∧ j < R ∧ v = .str (mkS r) t) (hF : Paired FmDec vs ys) : ∃ lc : List (Str × Tok), ys = strValues lc ∧ lc.map (·.1) = ((pieces.take R).map (fun r => decS r [10])).map mkS := by
  obtain ⟨e, ih⟩ := paired_at hF
  refine strs_of _ _ (by rw [← e, hlen]; simp; (first | lia | omega)) fun j z hz => ?_
  rw [List.getElem?_map] at hz
  obtain ⟨r, hr, rfl⟩ := Option.map_eq_some_iff.mp hz
  have hjR : j < R := by
    have := (List.getElem?_eq_some_iff.mp hr).1
    rw [List.length_take] at this; (first | lia | omega)
  rw [List.getElem?_take_of_lt hjR] at hr
  have hj : j < vs.length := by (first | lia | omega)
  obtain ⟨r', t, hr', _, hv⟩ := hP j vs[j] (List.getElem?_eq_getElem hj)
  rw [hr] at hr'; cases hr'
  obtain ⟨y, hy, hf⟩ := ih j vs[j] (List.getElem?_eq_getElem hj)
  obtain ⟨t', rfl⟩ := hf _ _ hv
  exact ⟨t', hy⟩
noncomputable def FmChunk (deck : T) (width : Nat) (v y : Value) : Prop := ∀ (p : Nat) t, v = .int (p : Int) t → ∃ t', y = .str (mkS ((deck.drop p).take width)) t'
theorem chunks_at {deck : T} {width : Nat} {vs ys : List Value} (hlen : vs.length = 12 / width) (hP : ∀ (j : Nat) (v : Value), vs[j]? = some v → ∃ t, v = .int (j * (width : Int)) t) (hF : Paired (FmChunk deck width) vs ys) : ∃ lc : List (Str × Tok), ys = strValues lc ∧ lc.map (·.1) = (chunksT deck width).map mkS := by
  obtain ⟨e, ih⟩ := paired_at hF
  refine strs_of _ _ (by rw [← e, hlen]; simp [chunksT]) fun j z hz => ?_
  unfold chunksT at hz
  rw [List.getElem?_map] at hz
  obtain ⟨j', hj', rfl⟩ := Option.map_eq_some_iff.mp hz
  have hjl : j < 12 / width := by have := (List.getElem?_eq_some_iff.mp hj').1; simpa using this
  have hjj : j' = j := by rw [List.getElem?_range hjl] at hj'; exact (Option.some.inj hj').symm
  subst hjj
  have hj : j' < vs.length := by (first | lia | omega)
  obtain ⟨t, hv⟩ := hP j' vs[j'] (List.getElem?_eq_getElem hj)
  obtain ⟨y, hy, hf⟩ := ih j' vs[j'] (List.getElem?_eq_getElem hj)
  obtain ⟨t', rfl⟩ := hf (j' * width) t (by rw [hv, Int.natCast_mul])
  exact ⟨t', hy⟩
theorem takenT_succ {deck : T} {width i : Nat} : takenT deck width (i + 1) = takenT deck width i ++ (List.range (12 / width)).map fun j => deck.getD (j * width + i) 0 := by
  unfold takenT; rw [List.range_succ, List.flatMap_append]; simp
theorem takenT_len {deck : T} {width i : Nat} : (takenT deck width i).length = i * (12 / width) := by
  induction i with
  | zero => simp [takenT]
  | succ i ih => rw [takenT_succ, List.length_append, ih]; simp [Nat.succ_mul]
theorem chunk_at {deck r : T} {width i j : Nat} (hdl : deck.length = 12) (hi : i < width) (h : (chunksT deck width)[j]? = some r) : j < 12 / width ∧ r.length ≤ 12 ∧ r[i]? = some (deck.getD (j * width + i) 0) := by
  unfold chunksT at h
  rw [List.getElem?_map] at h
  obtain ⟨j', hj', rfl⟩ := Option.map_eq_some_iff.mp h
  have hjl : j < 12 / width := by have := (List.getElem?_eq_some_iff.mp hj').1; simpa using this
  have hjj : j' = j := by rw [List.getElem?_range hjl] at hj'; exact (Option.some.inj hj').symm
  subst hjj
  have := row_in hjl
  refine ⟨hjl, by rw [List.length_take, List.length_drop]; (first | lia | omega), ?_⟩
  rw [List.getElem?_take_of_lt hi, List.getElem?_drop, List.getD_eq_getElem?_getD, List.getElem?_eq_getElem (by (first | lia | omega))]
  rfl
theorem c_dealt {n : Nat} {deck : T} {width m : Nat} {note noted mark eol : T} {shut : Bool} {t1 t2 t3 t4 t5 tm te : Tok} {D : Addr} {Q : Value → Shared → Prop} (G : Glb d mg mb h) (hA : AOk A (n + 3)) (hD : h.IsTuple D #[.str (mkS mark) tm, .str (mkS eol) te]) (hdl : deck.length = 12) (hdc : ∀ c ∈ deck, c < 256) (hnl : note.length ≤ 60) (hnc : ∀ c ∈ note, c < 256) (hmk : ∀ c ∈ mark, c < 256) (hml : mark.length ≤ 2) (hel : eol.length ≤ 2) (hm4 : 4 ≤ m) (hm9 : m ≤ 100) (hw : width = 6 ∨ width = 4 ∨ width = 3) {pieces : List T} (hte : te ≠ 0) (htk : @LT.lt Nat _ te k) (he1 : ∃ b e', eol = b :: e' ∧ (b = 10 ∨ b = 13)) (hek : eol = [10] ∨ eol = [13, 10]) (hpn : pieces ≠ []) (hpk : ∀ r ∈ pieces, (∀ c ∈ r, okC c = true) ∧ r.length ≤ 600) (hpl : 12 / width ≤ pieces.length) (hps : pieces.length ≤ 600) (hD3 : (pieces.take (12 / width)).map (fun r => decS r [10]) = chunksT deck width) (hpb : ∀ p ∈ pieces, NoBr p) (hB2ok : ∀ c ∈ joinT ([32, 9] ++ eol) pieces, okC c = true) (hB2l : (joinT ([32, 9] ++ eol) pieces).length ≤ 600) (hD2 : decS (joinT ([32, 9] ++ eol) pieces) eol = joinT eol (linesOf deck note shut)) (hBok : ∀ c ∈ joinT eol pieces, okC c = true) (hBl : (joinT eol pieces).length ≤ 600) (hD1 : decS (joinT eol pieces) [10] = joinT [10] (linesOf deck note shut)) (hnd : noted.length ≤ 200) (hExp : joinT eol pieces = expT deck noted eol width shut) (hB : bodyEnc (joinT mark (linesOf deck note shut)) m eol = joinT eol pieces)
    (hQ : ∀ tk h' k', Ext h h' → Q (.str (mkS (dealtT deck width)) tk) (S s₀ h' k')) :
    wpAny (model prog w) A (call (.ref d.dealt) [.str (mkS deck) t1, .int (width : Int) t2, .int (m : Int) t3, .str (mkS note) t4, .str (mkS noted) t5, .ref D, .bool shut]) Q E (S s₀ h k) := by
  refine' k_enterC (n := n + 2) (i := 32) [(Str.ofString "deck", .str (mkS deck) t1), (Str.ofString "width", .int (width : Int) t2), (Str.ofString "room", .int (m : Int) t3), (Str.ofString "note", .str (mkS note) t4), (Str.ofString "noted", .str (mkS noted) t5), (Str.ofString "ends", .ref D), (Str.ofString "shut", .bool shut)] (fun L => [(Str.ofString "codes", L + 1 + 1 + 1), (Str.ofString "width", L + 1 + 1), (Str.ofString "deck", L + 1)]) G G.dealt hA ?hp ?hb ?hs ?hbind ?hkind ?hnd ?hcl ?hco ?hgen ?hk ?_
  case hp => (conv => lhs; whnf); (try exact rfl)
  case hb => (conv => lhs; whnf); (try exact rfl)
  case hs => (conv => lhs; whnf); (try exact rfl)
  case hco => exact rfl
  case hgen => exact rfl
  case hk => exact rfl
  case hnd => decide
  case hcl => intro _; rfl
  case hkind => exact kindsX rfl
  wtm_at "ku_bind0"
  intro h₁ k₁ L cdv A' Qf cells hkk hA' _ hR F0 N0 Y
  have F : Fr h L h₁ (look [(Str.ofString "shut", .bool shut), (Str.ofString "ends", .ref D), (Str.ofString "noted", .str (mkS noted) t5), (Str.ofString "note", .str (mkS note) t4), (Str.ofString "room", .int (m : Int) t3)]) := F0
  obtain ⟨o1, o2, o3, rfl, y1, y2, y3⟩ := CellsAre.three Y
  replace y1 : o1.data = .cell none := y1
  replace y2 : o2.data = .cell (some (.int (width : Int) t2)) := y2
  replace y3 : o3.data = .cell (some (.str (mkS deck) t1)) := y3
  have hn1 := G.nenc
  have hn2 := G.ndec
  have hn3 := G.ncode
  have hn4 := G.nfloordiv
  have hn5 := G.nconcat
  have hn6 := G.ngetitem
  refine k_cons ?_
  refine k_unpack2 (D := D) hA'.handled F N0 (hD.at fun o q => F.keep _ _ q) ?_ (fun h2 k2 F2 N2 hk2 => ?_) rfl rfl rfl
  · repeat' wtm_at "ku"
    exact ⟨rfl, rfl⟩
  repeat' wtm_at "ku"
  refine l_cut (if shut then [[]] else []) (by with_reducible assumption) (by with_reducible assumption) ?_ (fun R h3 k3 ls3 e3 F3 N3 => ?_)
  · refine k_ifexp ?_
    repeat' wtm_at "ku"
    refine Br.mk' (fun c => ?_) (fun c => ?_)
    · subst c
      repeat' wtm_at "ku"
      rename_i F9 N9 _
      exact ⟨_, _, _, [(mkS [], _)], rfl, rfl, rfl, F9, N9⟩
    · subst c
      repeat' wtm_at "ku"
      rename_i F9 N9 _
      exact ⟨_, _, _, [], rfl, rfl, rfl, F9, N9⟩
  refine o_lsadd (la := [(mkS deck, t1), (mkS note, t4), (mkS [], _), (mkS note, t4)]) F3 N3 (k_and_isL N3 (by wtm_at "ku_mem")) (k_and_isL N3 (by wtm_at "ku_mem")) ?_ (fun R2 h4 LS eLS F4 N4 => ?_)
  · have : ls3.length ≤ 1 := by have := congrArg List.length e3; simp only [List.length_map] at this; rw [this]; split <;> simp
    simp; (first | lia | omega)
  have eL : LS.map (·.1) = (linesOf deck note shut).map mkS := by
    rw [eLS, e3]; unfold linesOf; rw [List.map_append]; rfl
  replace N4 : News h L h4 [(R2, listOf (strValues LS).toArray 0), (L + 1 + 1 + 1, o1), (L + 1 + 1, o2), (L + 1, o3)] := fun p hp => N4 p (by simp at hp ⊢; rcases hp with hp | hp | hp | hp <;> simp [hp])
  have hXl := linesOf_short (shut := shut) hdl hnl
  have hXn := linesOf_len deck note shut
  have hXc2 := linesOf_lt (shut := shut) hdc hnc hmk
  have hXs := linesOf_size (shut := shut) hdl hnl hml
  obtain ⟨ue, ve, hE⟩ := G.enc
  repeat' wtm_at "ku"
  refine k_own hE (by with_reducible assumption) (by with_reducible assumption) ?_
  repeat' wtm_at "ku"
  refine o_join (k_and_isL (by with_reducible assumption) (by wtm_at "ku_mem")) eL 60 hXl ?_ fun _ _ => ?_
  · have h1 : (linesOf deck note shut).length * 60 ≤ 5 * 60 := Nat.mul_le_mul_right _ hXn
    have h2 : (linesOf deck note shut).length * mark.length ≤ 5 * 2 := Nat.mul_le_mul hXn hml
    (first | lia | omega)
  repeat' wtm_at "ku"
  refine ⟨_, _, rfl, by with_reducible assumption, by with_reducible assumption, c_encG (G.keeps (Fr.keep (by with_reducible assumption))) hA' (.inl ⟨_, _, rfl⟩) hXc2 hXs hm4 (by (first | lia | omega)) hel fun tb h5 k5 x5 => ?_⟩
  rw [hB]
  rename_i Fz Nz _ _ _
  have F5 := x5.fr Fz
  have N5 := x5.news Nz
  clear Fz Nz
  repeat' wtm_at "ku"
  rename_i F6 N6 _
  refine k_compF F6 N6 deck.length (fun i v => ∃ c u, deck[i]? = some c ∧ v = .str (mkS [c]) u) FmCode (by (first | lia | omega)) rfl ?hcell rfl ?hnames rfl ?hs ?hit ?helt ?done
  case hcell => decide
  case hnames => decide
  case hs => intro _; rfl
  case hit =>
    repeat' wtm_at "ku"
    exact wk_str hA'.handled F6 N6
  case helt =>
    rintro s₃ C i v h₃ k₃ m₃ E' ⟨c, u, hc, rfl⟩ hn hm F3 N3 hk3
    repeat' wtm_at "ku"
    refine k_own G.code F3 N3 ?_
    repeat' wtm_at "ku"
    refine ⟨_, _, rfl, F3, N3, c_code (n := n + 1) (G.keeps F3.keep) hA' (hdc c (List.mem_of_getElem? hc)) fun t7 h7 k7 x7 => ⟨?_, h7, k7, rfl, x7⟩⟩
    intro c' t' e'
    cases e'
    exact ⟨_, rfl⟩
  rintro D3 h7 k7 vs ys z F7 N7 nD3 hk7 hlen hP hF
  obtain ⟨lc, rfl, elc⟩ := cods_at hlen hP hF
  refine k_storec (pre := [(D3, listOf (strValues lc).toArray z), (R2, listOf (strValues LS).toArray 0)]) (post := [(L + 1 + 1, o2), (L + 1, o3)]) F7 N7 y1 ?_ ?_ (fun h8 o1' y1' F8 N8 => ?_) rfl rfl rfl
  · intro p hp
    simp at hp
    rcases hp with rfl | rfl
    · exact fun e => nD3 (L + 1 + 1 + 1, o1) (by simp) e.symm
    · exact ne_cell N7 (z := 0) (vs := (strValues LS).toArray) (by simp) (o := o1) (by simp) y1
  · intro p hp
    simp at hp
    rcases hp with rfl | rfl
    · exact neL.1.symm
    · exact neL.2.1.symm
  repeat' wtm_at "ku"
  obtain ⟨rf1, rf2⟩ := range_facts hw
  have hw6 : 3 ≤ width ∧ width ≤ 6 := by (first | lia | omega)
  have lcl : lc.length = 12 := by have := congrArg List.length elc; simpa [hdl] using this
  refine k_compA F8 N8 (12 / width) (fun i v => i < 12 / width ∧ ∃ t, v = .int (i * (width : Int)) t) (FmRow (deck.map code) width) (Nat.le_trans (Nat.div_le_self 12 width) (by (first | lia | omega))) rfl rfl ?hcell2 rfl ?hnames2 rfl rfl rfl ?hs2 ?hit2 ?helt2 ?done2
  case hcell2 => decide
  case hnames2 => decide
  case hs2 => intro _; rfl
  case hit2 =>
    repeat' wtm_at "ku"
    refine o_range3 (by (first | lia | omega)) (by (first | lia | omega)) F8 N8 fun r h9 k9 hr F9 N9 => ?_
    exact wpAny_mono (wk_range hA'.handled hr rf1 rf2 F9 N9) (fun _ _ x => x.lt) fun _ _ x => x
  case helt2 =>
    rintro s₃ C i v h₃ k₃ m₃ E' ⟨hi9, t, rfl⟩ hn hm F3 N3 hk3
    obtain ⟨p, hp⟩ : ∃ y, y = i * width := ⟨_, rfl⟩
    have hpi : (i : Int) * (width : Int) = (p : Int) := by rw [hp, Int.natCast_mul]
    have hp12 : p + width ≤ 12 := hp ▸ row_in hi9
    rw [hpi] at hm
    repeat' wtm_at "ku"
    refine o_lsliceX (k_and_isL N3 (by wtm_at "ku_mem")) (by simp [strValues, lcl]) ?_
    repeat' wtm_at "ku"
    refine ⟨_, _, _, _, rfl, .int _ _, .int _ _, pick_strs (x := p) (y := p + width) (by (first | lia | omega)) (by (first | lia | omega)), fun R9 h9 k9 x9 l9 => ?_⟩
    repeat' wtm_at "ku"
    refine o_join (ys := ((deck.map code).drop p).take (p + width - p)) l9 ?_ 3 ?_ ?_ fun t9 k9' => ?_
    · rw [List.map_take, List.map_drop, elc, List.map_take, List.map_drop]
    · intro y hy
      have := List.mem_of_mem_drop (List.mem_of_mem_take hy)
      obtain ⟨c, _, rfl⟩ := List.mem_map.mp this
      unfold code; split <;> simp [esc]
    · rw [List.length_take]; simp; (first | lia | omega)
    refine ⟨?_, _, _, rfl, x9⟩
    intro p' t' e'
    injection e' with e1 e2
    have e3 : p' = p := by rw [hpi] at e1; (first | lia | omega)
    subst e3
    exact ⟨t9, by rw [joinT_nil, Nat.add_sub_cancel_left]⟩
  case done2 =>
    rintro D4 h9 k9 vs2 ys2 z2 F9 N9 nD4 hk9 hlen2 hP2 hF2
    obtain ⟨lr, rfl, elr⟩ := rows_at hlen2 (fun j v hv => (hP2 j v hv).2) hF2
    repeat' wtm_at "ku"
    have hrl := rowsT_len (deck := deck) (width := width) hw6.2
    have hrc := rowsT_count (codes := deck.map code) hw6.1
    have hJl := joinT_len (e := [61] ++ eol) hrl
    have hJl2 : (joinT ([61] ++ eol) (rowsT (deck.map code) width)).length ≤ 4 * 21 := by
      refine Nat.le_trans hJl (Nat.mul_le_mul hrc ?_)
      simp; (first | lia | omega)
    refine o_join (k_and_isL (by with_reducible assumption) (by wtm_at "ku_mem")) elr 18 hrl ?_ fun _ _ => ?_
    · have h1 : (rowsT (deck.map code) width).length * 18 ≤ 4 * 18 := Nat.mul_le_mul_right _ hrc
      have h2 : (rowsT (deck.map code) width).length * ([61] ++ eol).length ≤ 4 * 3 := Nat.mul_le_mul hrc (by simp; (first | lia | omega))
      (first | lia | omega)
    repeat' wtm_at "ku"
    refine v_cut (if shut then eol else []) ?_ fun _ _ => ?_
    · refine k_ifexp ?_
      repeat' wtm_at "ku"
      refine Br.mk' (fun c => ?_) (fun c => ?_)
      · subst c
        repeat' wtm_at "ku"
        exact ⟨_, _, rfl, rfl⟩
      · subst c
        repeat' wtm_at "ku"
        exact ⟨_, _, rfl, rfl⟩
    have hfl : (if shut then eol else []).length ≤ 2 := by split; exact hel; exact Nat.zero_le _
    repeat' wtm_at "ku"
    refine Br.f (decide_eq_false (not_not_intro hExp)) ?_
    obtain ⟨ud, hDc⟩ := G.dec
    repeat' wtm_at "ku"
    refine k_own hDc (by with_reducible assumption) (by with_reducible assumption) ?_
    repeat' wtm_at "ku"
    refine ⟨_, _, rfl, F9, N9, wpAny_with_toks (Nat.le_refl _) (c_decG (G.keeps F9.keep) hA' (.inr ⟨rfl, rfl⟩) hBok (by (first | lia | omega)) (by simp) (by simp) fun _ h10 k10 x10 => fun hk10 => ?_)⟩
    have Fb := x10.fr F9
    have Nb := x10.news N9
    unfold S at hk10
    dsimp only at hk10
    rw [hD1]
    have hjs : ∀ e : T, e.length ≤ 2 → (linesOf deck note shut).length * 60 + (linesOf deck note shut).length * e.length ≤ 16777216 := fun e he => by
      have h1 : (linesOf deck note shut).length * 60 ≤ 5 * 60 := Nat.mul_le_mul_right _ hXn
      have h2 : (linesOf deck note shut).length * e.length ≤ 5 * 2 := Nat.mul_le_mul hXn he
      (first | lia | omega)
    repeat' wtm_at "ku"
    refine wpAny_with_toks (Nat.le_refl _) (o_join (k_and_isL Nb (by wtm_at "ku_mem")) eL 60 hXl (hjs _ (by simp)) fun _ k11 => fun hk11 => ?_)
    unfold S at hk11
    dsimp only at hk11
    repeat' wtm_at "ku"
    refine Br.f (by simp) ?_
    repeat' wtm_at "ku"
    refine k_own hDc Fb Nb ?_
    repeat' wtm_at "ku"
    have hen : eol ≠ [] := by obtain ⟨b, e', rfl, _⟩ := he1; simp
    refine o_catT (by simp) hen (by simp; (first | lia | omega)) ?_
    repeat' wtm_at "ku"
    obtain ⟨b, e', he2, hb2⟩ := he1
    refine o_replace (z := [32, 9] ++ eol) hte ?_ ?_ ?_ he2 hb2 hpn hpb (by (first | lia | omega)) (by simp; (first | lia | omega)) fun _ k13 => ?_
    · exact Nat.ne_of_gt (Nat.lt_of_le_of_lt (Nat.zero_le te) (by (first | lia | omega)))
    · exact Nat.ne_of_lt (by (first | lia | omega))
    · rw [he2]; intro e; simp at e; (first | lia | omega)
    repeat' wtm_at "ku"
    refine ⟨_, _, rfl, Fb, Nb, c_decG (G.keeps Fb.keep) hA' (.inl ⟨_, rfl⟩) hB2ok (by (first | lia | omega)) hel (by rw [he2]; simp) fun _ h14 k14 x14 => ?_⟩
    have Fc := x14.fr Fb
    have Nc := x14.news Nb
    rw [hD2]
    repeat' wtm_at "ku"
    refine o_join (k_and_isL Nc (by wtm_at "ku_mem")) eL 60 hXl (hjs _ hel) fun _ _ => ?_
    repeat' wtm_at "ku"
    refine Br.f (by simp) ?_
    repeat' wtm_at "ku"
    refine k_compA Fc Nc (12 / width) (fun i v => ∃ r t, pieces[i]? = some r ∧ i < 12 / width ∧ v = .str (mkS r) t) FmDec (Nat.le_trans (Nat.div_le_self 12 width) (by (first | lia | omega))) rfl rfl ?hcell3 rfl ?hnames3 rfl rfl rfl ?hs3 ?hit3 ?helt3 ?done3
    case hcell3 => decide
    case hnames3 => decide
    case hs3 => intro _; rfl
    case hit3 =>
      repeat' wtm_at "ku"
      refine o_split Fc Nc he2 hb2 ?_ hpn hpb (by (first | lia | omega)) fun Dp lp h15 k15 elp F15 N15 nL15 nn15 => ?_
      · rcases hek with rfl | rfl <;> decide +kernel
      have lpl : lp.length = pieces.length := by simpa using congrArg List.length elp
      repeat' wtm_at "ku"
      refine o_lslice2 (D := Dp) (vs := strValues lp) F15 N15 (by simp [strValues]; (first | lia | omega)) ?_
      repeat' wtm_at "ku"
      refine k_own G.floordiv F15 N15 ?_
      repeat' wtm_at "ku"
      refine ⟨_, _, rfl, F15, N15, c_floordiv (n := n + 1) (G.keeps F15.keep) hA' (by (first | lia | omega)) (by (first | lia | omega)) fun t7 h7' k7' x7 => ?_⟩
      have F16 := x7.fr F15
      have N16 := x7.news N15
      have e12 : (12 : Int) / (width : Int) = ((12 / width : Nat) : Int) := (Int.natCast_ediv 12 width).symm
      rw [e12]
      refine ⟨_, _, _, _, _, rfl, F16, N16, k_and_isL N16 (by wtm_at "ku_mem"), .none, .int _ _, pick_upto, fun R9 h9' k9' F17 N17 => ?_⟩
      have hl17 : ((strValues lp).take (12 / width)).length = 12 / width := by rw [List.length_take]; simp [strValues, lpl]; (first | lia | omega)
      have q := wk_list (w := w) (A := A') (E := fun _ _ => False) (s₀ := s₀) (k := k9') hA'.handled (k_and_isL N17 (by wtm_at "ku_mem")) F17 (news := _) (fun p hp => N17 p (.tail _ (.tail _ hp)))
      rw [hl17] at q
      refine wpAny_mono q (fun it s₂ x => x.imp fun i v hv => ?_) fun _ _ x => x
      rw [List.getElem?_take] at hv
      split at hv
      · rename_i hlt
        obtain ⟨y, t, hy, rfl⟩ := vals_at elp hv
        exact ⟨y, t, hy, hlt, rfl⟩
      · cases hv
    case helt3 =>
      rintro s₃ C i v h₃ k₃ m₃ E' ⟨r, t, hr, hi9, rfl⟩ hn hm F3 N3 hk3
      have hr2 := hpk r (List.mem_of_getElem? hr)
      repeat' wtm_at "ku"
      refine k_own hDc F3 N3 ?_
      repeat' wtm_at "ku"
      refine ⟨_, _, rfl, F3, N3, c_decG (G.keeps F3.keep) hA' (.inr ⟨rfl, rfl⟩) hr2.1 (by (first | lia | omega)) (by simp) (by simp) fun t7 h7' k7' x7 => ⟨?_, h7', k7', rfl, x7⟩⟩
      intro r' t' e'
      injection e' with e1 e2
      rw [mkS_inj] at e1
      subst e1
      exact ⟨_, rfl⟩
    case done3 =>
      rintro D5 h17 k17 vs3 ys3 z3 F17 N17 nD5 hk17 hlen3 hP3 hF3
      obtain ⟨lrd, rfl, elrd⟩ := read_at hpl hlen3 hP3 hF3
      rw [hD3] at elrd
      repeat' wtm_at "ku"
      refine k_compF F17 N17 (12 / width) (fun i v => i < 12 / width ∧ ∃ t, v = .int (i * (width : Int)) t) (FmChunk deck width) (Nat.le_trans (Nat.div_le_self 12 width) (by (first | lia | omega))) rfl ?hcell4 rfl ?hnames4 rfl ?hs4 ?hit4 ?helt4 ?done4
      case hcell4 => decide
      case hnames4 => decide
      case hs4 => intro _; rfl
      case hit4 =>
        repeat' wtm_at "ku"
        refine o_range3 (by (first | lia | omega)) (by (first | lia | omega)) F17 N17 fun r h9 k9 hr F9 N9 => ?_
        exact wpAny_mono (wk_range hA'.handled hr rf1 rf2 F9 N9) (fun _ _ x => x.lt) fun _ _ x => x
      case helt4 =>
        rintro s₃ C i v h₃ k₃ m₃ E' ⟨hi9, t, rfl⟩ hn hm F3 N3 hk3
        obtain ⟨p, hp⟩ : ∃ y, y = i * width := ⟨_, rfl⟩
        have hpi : (i : Int) * (width : Int) = (p : Int) := by rw [hp, Int.natCast_mul]
        rw [hpi] at hm
        repeat' wtm_at "ku"
        refine o_slcX (by (first | lia | omega)) ?_
        repeat' wtm_at "ku"
        refine ⟨_, _, rfl, ⟨_, _, rfl, _, _, rfl, slice_at deck p width rfl rfl⟩, fun t9 h9' k9' x9 => ⟨?_, _, _, rfl, x9⟩⟩
        intro p' t' e'
        injection e' with e1 e2
        have e3 : p' = p := by rw [hpi] at e1; (first | lia | omega)
        subst e3
        exact ⟨t9, rfl⟩
      case done4 =>
        rintro D6 h18 k18 vs4 ys4 z4 F18 N18 nD6 hk18 hlen4 hP4 hF4
        obtain ⟨lch, rfl, elch⟩ := chunks_at hlen4 (fun j v hv => (hP4 j v hv).2) hF4
        refine o_lne_strs (k_and_isL N18 (by wtm_at "ku_mem")) (k_and_isL N18 (by wtm_at "ku_mem")) (elrd.trans elch.symm) hA'.cl ?_
        repeat' wtm_at "ku"
        refine Br.f rfl ?_
        repeat' wtm_at "ku"
        rename_i F19 N19' _
        have N19 : News h L _ [(D5, listOf (strValues lrd).toArray z3), (L + 1 + 1, o2)] := fun p hp => N19' p (by simp at hp ⊢; rcases hp with hp | hp <;> simp [hp])
        refine k_for2 h rfl rfl ?_
        repeat' wtm_at "ku"
        refine o_range1 F19 N19 fun r h20 k20 _ _ hr20 F20 N20 => ?_
        refine for_range (n := width) hA'.handled hr20 ?_ ?_ F20 N20 (fun i v n => (∃ t, look v (Str.ofString "taken") = some (.str (mkS (takenT deck width i)) t)) ∧ look v (Str.ofString "read") = some (.ref D5) ∧ n = [(D5, listOf (strValues lrd).toArray z3), (L + 1 + 1, o2)]) ⟨⟨_, by wtm_at "lk"⟩, by wtm_at "lk", rfl⟩ ?_ ?_
        · rcases hw with rfl | rfl | rfl <;> decide
        · rcases hw with rfl | rfl | rfl <;> decide
        · rintro i v vals₁ news₁ own h21 k21 hi ⟨ti, rfl⟩ ⟨⟨tt, htk1⟩, hrd, rfl⟩ _ F21 N21
          refine k_cons (k_for2 h rfl rfl ?_)
          repeat' wtm_at "ku"
          have hmD : (D5, listOf (strValues lrd).toArray z3) ∈ own ++ [(D5, listOf (strValues lrd).toArray z3), (L + 1 + 1, o2)] := List.mem_append_right _ (.head _)
          refine for_list2 hA'.handled (k_and_isL N21 hmD) (N21 _ hmD).2.1 F21 N21 (fun j v n => (∃ t, look v (Str.ofString "taken") = some (.str (mkS (takenT deck width i ++ (List.range j).map fun j => deck.getD (j * width + i) 0)) t)) ∧ look v (Str.ofString "read") = some (.ref D5) ∧ look v (Str.ofString "column") = some (.int (i : Int) ti) ∧ n = own ++ [(D5, listOf (strValues lrd).toArray z3), (L + 1 + 1, o2)]) ⟨⟨tt, by simpa using (look_tl (by decide) htk1)⟩, look_tl (by decide) hrd, look_hd, rfl⟩ ?_ ?_
          · rintro j v vals₂ news₂ own₂ h23 k23 hv ⟨⟨t2, htk2⟩, hrd2, hcol, rfl⟩ hads F23 N23
            obtain ⟨y, ty, hy, rfl⟩ := vals_at elrd hv
            obtain ⟨hj, hyl, hyi⟩ := chunk_at hdl hi hy
            repeat' wtm_at "ku"
            refine k_own G.concat F23 N23 ?_
            repeat' wtm_at "ku"
            refine k_own G.getitem F23 N23 ?_
            repeat' wtm_at "ku"
            refine ⟨_, _, rfl, F23, N23, c_getitem (n := n + 1) (G.keeps F23.keep) hA' (by (first | lia | omega)) hyi fun _ h24 k24 x24 => ?_⟩
            have F24 := x24.fr F23
            have N24 := x24.news N23
            repeat' wtm_at "ku"
            refine ⟨_, _, rfl, F24, N24, c_concat (n := n + 1) (G.keeps F24.keep) hA' ?_ fun _ h25 k25 x25 => ?_⟩
            · rw [List.length_append, takenT_len, List.length_map, List.length_range, List.length_singleton]
              have : i * (12 / width) ≤ 6 * 4 := Nat.mul_le_mul (by (first | lia | omega)) (by rcases hw with rfl | rfl | rfl <;> decide)
              have : j < 4 := Nat.lt_of_lt_of_le hj (by rcases hw with rfl | rfl | rfl <;> decide)
              (first | lia | omega)
            have F25 := x25.fr F24
            have N25 := x25.news N24
            repeat' wtm_at "ku"
            rename_i F26 N26 _
            refine te_next F26 N26 hads ?_
            have e5 : takenT deck width i ++ (List.range (j + 1)).map (fun j => deck.getD (j * width + i) 0) = takenT deck width i ++ (List.range j).map (fun j => deck.getD (j * width + i) 0) ++ [deck.getD (j * width + i) 0] := by
              rw [List.range_succ, List.map_append, ← List.append_assoc]; rfl
            exact ⟨⟨_, by rw [e5]; exact look_hd⟩, look_tl (by decide) (look_tl (by decide) hrd2), look_tl (by decide) (look_tl (by decide) hcol), rfl⟩
          · rintro h22 k22 vals2 news2 F22 N22 hads ⟨⟨t2, htk2⟩, hrd2, hcol, rfl⟩
            repeat' wtm_at "ku"
            refine te_next F22 N22 rfl ?_
            refine ⟨⟨t2, ?_⟩, hrd2, rfl⟩
            rw [takenT_succ]
            have hll : (strValues lrd).length = 12 / width := by have := congrArg List.length elrd; simpa [strValues, chunksT] using this
            rw [hll] at htk2; exact htk2
        · rintro h22 k22 vals2 news2 F22 N22 _ ⟨⟨tt, htk1⟩, hrd, rfl⟩
          repeat' wtm_at "ku"
          exact hR _ _ _ (hQ _ _ _ F22.keep)
noncomputable def msgT : T := [109, 97, 120, 108, 105, 110, 101, 108, 101, 110, 32, 109, 117, 115, 116, 32, 98, 101, 32, 97, 116, 32, 108, 101, 97, 115, 116, 32, 52]
/-- a def without cells, that raises -/
theorem k_enterR {i : Nat} {f : Addr} {dV args : List Value} {Q : Value → Shared → Prop} {n : Nat} {body : List Stmt} {scope : Scope} {params : Arguments} (binds : List (Str × Value)) (G : Glb d mg mb h) (H : FnIs h i f dV) (hA : AOk A (n + 1))
    (hp : fparams i = params) (hb : fbody i = body) (hs : fscope i = scope)
    (hbind : ∀ dv kV doc pm an cdv ct, (dV = [] → dv = .none) → (dV ≠ [] → ∃ T oT n, dv = .ref T ∧ h.get? T = some oT ∧ oT.data = .seq dV.toArray n) → BindsTo (S s₀ h k) (fnOf (fname i) (fname i) params body scope dv kV doc pm an cdv ct) ⟨args, []⟩ binds)
    (hcell : ∀ x ∈ scope.names, x.2 ≠ .cell) (hloc : ∀ x ∈ binds, scope.names.lookup x.1 = some .local) (hco : scope.isCoroutine = false) (hgen : scope.isGenerator = false) (hk : scope.kind = .function)
    (hbody : ∀ (h₁ : Heap) (k₁ : Nat) (L : Addr) (cdv : Value), AOk (A.deeper (envX (fname i) scope L f cdv [])) n → Fr h L h₁ (look binds.reverse) → News h L h₁ [] →
      wpAny (model prog w) (A.deeper (envX (fname i) scope L f cdv [])) (execs body (envX (fname i) scope L f cdv [])) (fun _ _ => False)
        (fun e s' => wpAny (model prog w) (A.deeper (envX (fname i) scope L f cdv [])) (leaving (envX (fname i) scope L f cdv []) e) (fun _ s'' => E e s'') (fun e' s'' => E e' s'') s') (S s₀ h₁ k₁)) :
    wpAny (model prog w) A (call (.ref f) args) Q E (S s₀ h k) := by
  subst hp hb hs
  obtain ⟨o, dv, kV, doc, pm, an, cdv, ct, h1, h2, h3, h4, h5⟩ := H
  refine wpAny_call (codeAny_call_def (fd := fnOf (fname i) (fname i) (fparams i) (fbody i) (fscope i) dv kV doc pm an cdv ct) (body := fbody i) (binds := binds) hA.room h1 h2 G.nolimit h3 rfl (hbind _ _ _ _ _ _ _ h4 h5) hcell hloc (fun h₁ hns hk₁ => ?_) hco hgen hk)
  have F : Fr h h.objs.size h₁ (look binds.reverse) := by
    have e : (fun x => binds.reverse.lookup x) = look binds.reverse := funext fun x => look_lookup _ x
    exact ⟨e ▸ hns, hk₁, Nat.le_refl _⟩
  exact wpAny_mono (hbody h₁ _ _ cdv (hA.deeper _) F News.nil) (fun _ _ q => q.elim) fun _ _ q => q
theorem hide_stays (g : Heap) (l : List Addr) : (hideAll g l).StaysIn g := fun b o q => of_hideAll _ q
/-- body_encode refuses its room -/
theorem c_encR {n : Nat} {l eol : T} {t u v : Tok} {Q : Value → Shared → Prop} {base : Heap} {outer : List Env} (G : Glb d mg mb h) (hA : AOk A (n + 1)) (hfr : A.frames = some outer) (hst : base.StaysIn h) (hff : h.FunFrames base outer)
    (hE : ∀ e t' tk h' k', Heap.FlyingW base outer e (.type "ValueError") (.ref t') h' → h'.TupAt t' [.str (mkS msgT) tk] → base.get? t' = none → h.UpToSlots h' → E (.ref e) (S s₀ h' k')) :
    wpAny (model prog w) A (call (.ref d.enc) [.str (mkS l) t, .int 3 u, .str (mkS eol) v]) Q E (S s₀ h k) := by
  obtain ⟨dt, du, hD⟩ := G.enc
  refine' k_enterR (n := n) (i := 19) [(Str.ofString "body", .str (mkS l) t), (Str.ofString "maxlinelen", .int 3 u), (Str.ofString "eol", .str (mkS eol) v)] G hD hA ?hp ?hb ?hs ?hbind ?hcell ?hloc ?hco ?hgen ?hk ?_
  wtm_at "ku_lit"
  case hbind =>
    intro dv kV doc pm an cdv ct _ h2
    obtain ⟨T, oT, nn, rfl, h3, h4⟩ := h2 (by simp)
    exact BindsTo.of_defaults rfl h3 h4 rfl rfl
  intro h₁ k₁ L cdv hA' F N
  repeat' wtm_at "ku"
  refine Br.t (by decide) ?_
  repeat' wtm_at "ku"
  refine Raise_madeB PySem.F.excCall_ValueError PySem.F.excRaise_ValueError hA'.handled ?_
  refine k_bi G F (by decide) (by boot_by_name) ⟨rfl, ?_⟩ (by decide) (by rfl) (by rfl) (by decide)
  repeat' wtm_at "ku"
  rename_i tk k2 _
  refine ⟨by simp [PySem.sizeLine], fun h2 e hx => ?_⟩
  have hx' := Heap.MadeExc.of hx
  have hsL : base.get? L = none := by
    cases q : base.get? L with
    | none => rfl
    | some o => exact absurd (Nat.lt_of_lt_of_le (Heap.lt_size (hst _ _ q)) F.above) (Nat.lt_irrefl _)
  have hff1 : h₁.FunFrames base outer := hff.of_keeps fun b o q _ => ⟨o, F.keep _ _ q, rfl⟩
  obtain ⟨oL, es, ep, hL, hLd, _⟩ := F.ns
  refine wpAny_leaves_madeW (s := S s₀ h2 k2) (L := L) (base := base) (outer := outer) (Around.frames_deeper hfr) rfl (fun b o q => F.keep _ _ (hst _ _ q))
    ⟨by show (fscope 19).kind ≠ _; decide, ⟨L, oL, rfl, hsL, hL, fun vs q => by rw [hLd] at q; cases q⟩, hff1⟩ hx' fun h' t' x1 x2 x3 x4 => ?_
  exact hE e t' tk h' k2 x1 x2 x3 (((Heap.UpToSlots.of_keeps F.keep).trans (Heap.UpToSlots.of_keeps hx'.keeps)).trans x4)
theorem isSub_VE : isSubtype (.type "ValueError") (.type "ValueError") = pure true := by rw [isSubtype_type]; kernel_rfl
theorem o_strexc {h₀ : Heap} {L e t : Addr} {news : List (Addr × Obj)} {m : Str} {u : Tok} {Q : Value → Shared → Prop} (N : News h₀ L h news) (G : Got news e t (.type "ValueError") [.str m u]) (hu : A.units + 2 < cLine) (hq : Q (.str m u) (S s₀ h k)) :
    wpAny (model prog w) A (call (.type "str") [.ref e]) Q E (S s₀ h k) := str_got_one (h := h) PySem.F.excStr_ValueError N G hu hq
theorem c_refused {n : Nat} {l eol : T} {t u v : Tok} {Q : Value → Shared → Prop} {h₀ : Heap} {cn : Str} {cs : Scope} {L a : Addr} {ccd : Value} {cl : List (Str × Addr)} {m : Str → Option Value} {news : List (Addr × Obj)} (G₀ : Glb d mg mb h₀) (F₀ : Fr h₀ L h m) (N₀ : News h₀ L h news) (hA : AOk A (n + 3))
    (hfr : A.frames = some [envX cn cs L a ccd cl]) (hck : cs.kind = .function)
    (hQ : ∀ R tk h' k', Fr h₀ L h' m → News h₀ L h' ((R, listOf [Value.str (mkS msgT) tk].toArray 0) :: news) → (∀ p ∈ news, p.1 ≠ R) → Q (.ref R) (S s₀ h' k')) :
    wpAny (model prog w) A (call (.ref d.refused) [.str (mkS l) t, .int 3 u, .str (mkS eol) v]) Q E (S s₀ h k) := by
  have G := G₀.keeps F₀.keep
  refine' k_enterC (n := n + 2) (i := 33) [(Str.ofString "text", .str (mkS l) t), (Str.ofString "room", .int 3 u), (Str.ofString "end", .str (mkS eol) v)] (fun _ => []) G G.refused hA ?hp ?hb ?hs ?hbind ?hkind ?hnd ?hcl ?hco ?hgen ?hk ?_
  case hp => (conv => lhs; whnf); (try exact rfl)
  case hb => (conv => lhs; whnf); (try exact rfl)
  case hs => (conv => lhs; whnf); (try exact rfl)
  case hco => exact rfl
  case hgen => exact rfl
  case hk => exact rfl
  case hnd => decide
  case hcl => intro _; rfl
  case hkind => exact kindsX rfl
  wtm_at "ku_bind0"
  intro h₁ k₁ L' cdv A' Qf cells hkk hA' hAe hR F0 N0 Y
  have F1 : Fr h L' h₁ (look [(Str.ofString "end", .str (mkS eol) v), (Str.ofString "room", .int 3 u), (Str.ofString "text", .str (mkS l) t)]) := F0
  cases Y
  have hn1 := G.nenc
  obtain ⟨ue, ve, hE⟩ := G.enc
  have hhn : h.get? L' = none := Heap.get?_none_of_le F1.above
  obtain ⟨oL, esL, epL, hL, hLd, hLk, hLf⟩ := F₀.ns
  have hLL : L ≠ L' := fun e => by rw [e, hhn] at hL; cases hL
  have hfrA := (congrArg Around.frames hAe).trans (Around.frames_deeper hfr)
  refine k_cons (wpAny_Try_except ?_)
  repeat' wtm_at "ku"
  refine k_own hE F1 N0 ?_
  repeat' wtm_at "ku"
  obtain ⟨oL', es', ep', hL', hLd', _⟩ := F1.ns
  refine ⟨_, _, rfl, F1, N0, c_encR (n := n + 1) (base := hideAll h₁ [L', L]) (G.keeps F1.keep) hA' hfrA (hide_stays _ _) ⟨by show (fscope 33).kind ≠ _; decide, ⟨L', oL', rfl, hideAll_none _ (by simp), hL', fun vs q => by rw [hLd'] at q; cases q⟩, by show cs.kind ≠ _; rw [hck]; decide, ⟨L, oL, rfl, hideAll_none _ (by simp), F1.keep _ _ hL, fun vs q => by rw [hLd] at q; cases q⟩, trivial⟩ fun e t' tk h3 k3 hfl htup hbt hup => ?_⟩
  have hbase : ∀ b o, b ≠ L → h.get? b = some o → (hideAll h₁ [L', L]).get? b = some o := fun b o nb q => hideAll_get _ (F1.keep _ _ q) fun hm => by
    simp at hm
    rcases hm with z | z
    · rw [z, hhn] at q; cases q
    · exact nb z
  obtain ⟨g, hg⟩ : ∃ g, g = hideAll h [L] := ⟨_, rfl⟩
  have hgs : g.objs.size = h.objs.size := by rw [hg]; exact hideAll_size _ _
  have hgk : ∀ b o, g.get? b = some o → b ≠ L ∧ h.get? b = some o := fun b o q => by
    rw [hg] at q
    refine ⟨fun e => ?_, of_hideAll _ q⟩
    rw [e, hideAll_none _ (by simp)] at q; cases q
  have hkg : ∀ b o, b ≠ L → h.get? b = some o → g.get? b = some o := fun b o nb q => by rw [hg]; exact hideAll_get _ q (by simp [nb])
  have hL0 : h₀.get? L = none := Heap.get?_none_of_le F₀.above
  have h0g : ∀ b o, h₀.get? b = some o → g.get? b = some o := fun b o q => hkg b o (fun e => by rw [e, hL0] at q; cases q) (F₀.keep _ _ q)
  have Gg : Glb d mg mb g := G₀.keeps h0g
  have hgb : ∀ b o, g.get? b = some o → (hideAll h₁ [L', L]).get? b = some o := fun b o q => hbase b o (hgk b o q).1 (hgk b o q).2
  have hbn : ∀ b, (hideAll h₁ [L', L]).get? b = none → g.get? b = none := fun b q => by
    cases q2 : g.get? b with
    | none => rfl
    | some o => rw [hgb _ _ q2] at q; cases q
  have frOf : ∀ hx : Heap, (hideAll h₁ [L', L]).StaysIn hx → h₁.UpToSlots hx → Fr g L' hx (look [(Str.ofString "end", .str (mkS eol) v), (Str.ofString "room", .int 3 u), (Str.ofString "text", .str (mkS l) t)]) := fun hx x1 x2 => ⟨x2.ns F1.ns, fun b o q => x1 _ _ (hgb _ _ q), by rw [hgs]; exact F1.above⟩
  refine wpAny_looks_onW (s := S s₀ h3 k3) hfrA rfl hfl fun h4 hheld hsm4 => ?_
  refine wpAny_landsW (s := S s₀ h4 k3) hheld fun h5 hfl5 hsm5 => ?_
  have up5 : h₁.UpToSlots h5 := (hup.trans hsm4).trans hsm5
  have F5 := frOf h5 hfl5.1 up5
  refine wpAny_handleBy_builtin_as (s := S s₀ h5 k3) (X := "ValueError") (T := "ValueError") (b := true) PySem.F.isExc_ValueError PySem.F.notTuple_ValueError isSub_VE ?_
  obtain ⟨oe5, ws5, he5, hec5, _⟩ := hfl5.first
  refine k_bi (k := k3) Gg F5 (by decide) (by boot_by_name) ⟨rfl, ⟨oe5, he5, hec5⟩, ?_⟩ (by decide) (by rfl) (by rfl) (by decide)
  rw [if_pos rfl]
  refine lands_againW (s := S s₀ h5 k3) hfl5 fun h6 hfl6 hsm6 => ?_
  have up6 : h₁.UpToSlots h6 := up5.trans hsm6
  have F6 := frOf h6 hfl6.1 up6
  obtain ⟨oe, ws, he6, hec, hed, he0⟩ := hfl6.first
  obtain ⟨ot, nt, ht6, htc, htd⟩ := htup.of_slots ((hsm4.trans hsm5).trans hsm6)
  obtain ⟨slL, hL6⟩ := up6 L oL (F1.keep _ _ hL) (fun vs q => by rw [hLd] at q; cases q)
  have neL : ∀ b, (hideAll h₁ [L', L]).get? b = none → ∀ o, h6.get? b = some o → (∀ es n, o.data ≠ .dict es n) → b ≠ L' := fun b _ o q hnd z => by
    obtain ⟨o2, es2, ep2, q2, hd2, _⟩ := F6.ns
    rw [z, q2] at q
    cases q
    exact hnd _ _ hd2
  have N6 : News g L' h6 [(e, oe), (t', ot), (L, { oL with slots := slL })] := fun p hp => by
    simp at hp
    rcases hp with rfl | rfl | rfl
    · exact ⟨he6, neL _ hfl6.2.1 _ he6 (fun es n q => by rw [hed] at q; cases q), hbn _ hfl6.2.1⟩
    · exact ⟨ht6, neL _ hbt _ ht6 (fun es n q => by rw [htd] at q; cases q), hbn _ hbt⟩
    · refine ⟨hL6, hLL, ?_⟩
      rw [hg]; exact hideAll_none _ (by simp)
  refine k_store F6 N6 (fun h7 k7 F7 N7 => ?_) (by rfl) (by rfl)
  repeat' wtm_at "ku"
  refine o_strexc N7 ⟨oe, ot, ws, nt, by simp, by simp, hec, hed, he0, htc, htd⟩ (by have := hA'.units; show A'.units + 2 < cLine; unfold cLine; (first | lia | omega)) ?_
  repeat' wtm_at "ku"
  rename_i R h8 F8 N8 _
  refine wpAny_nameGoes (s := S s₀ h8 k7) (by rfl) F8.ns (by rfl) fun h9 m9 hn9 hs9 => ?_
  replace hs9 : Heap.SameBut L' h8 h9 := hs9
  have L9 : h9.get? L = some { oL with slots := slL } := (hs9.2 _ hLL).trans (N8 (L, _) (by simp)).1
  have k9 : ∀ b o, b ≠ L → h.get? b = some o → h9.get? b = some o := fun b o nb q => (hs9.2 b fun z => by rw [z, hhn] at q; cases q).trans (F8.keep _ _ (hkg b o nb q))
  have R8 := N8 (R, _) (.head _)
  have R9 : h9.get? R = some _ := (hs9.2 _ R8.2.1).trans R8.1
  have hRL : R ≠ L := fun z => by
    rw [z, L9] at R9
    have := congrArg Obj.data (Option.some.inj R9)
    have h2 : Data.dict esL epL = _ := hLd.symm.trans this
    cases h2
  have hR0 : ∀ b o, h₀.get? b = some o → b ≠ R := fun b o q z => by
    have := h0g _ _ q
    rw [z, R8.2.2] at this; cases this
  have hRN : ∀ p ∈ news, p.1 ≠ R := fun p hp z => by
    have := hkg _ _ (N₀ p hp).2.1 (N₀ p hp).1
    rw [z, R8.2.2] at this; cases this
  have N9 : News h₀ L h9 ((R, listOf [Value.str (mkS msgT) tk].toArray 0) :: news) := fun p hp => by
    rcases List.mem_cons.mp hp with rfl | hp
    · refine ⟨R9, hRL, ?_⟩
      cases q : h₀.get? R with
      | none => rfl
      | some o => exact absurd rfl (hR0 _ _ q)
    · exact ⟨k9 _ _ (N₀ p hp).2.1 (N₀ p hp).1, (N₀ p hp).2⟩
  have F9 : Fr h₀ L h9 m := ⟨⟨_, esL, epL, L9, hLd, hLk, hLf⟩, fun b o q => k9 b o (fun z => by rw [z, hL0] at q; cases q) (F₀.keep _ _ q), F₀.above⟩
  exact k_ret (hR _ h9 (k7 + 1) (hQ R tk h9 _ F9 N9 hRN))
theorem c_refused4 {n : Nat} {eol : T} {t u v : Tok} {Q : Value → Shared → Prop} (G : Glb d mg mb h) (hA : AOk A (n + 3)) (he : eol.length ≤ 2) (hQ : ∀ tk h' k', Ext h h' → Q (.str (mkS []) tk) (S s₀ h' k')) :
    wpAny (model prog w) A (call (.ref d.refused) [.str (mkS []) t, .int 4 u, .str (mkS eol) v]) Q E (S s₀ h k) := by
  refine' k_enter (n := n + 2) (i := 33) [(Str.ofString "text", .str (mkS []) t), (Str.ofString "room", .int 4 u), (Str.ofString "end", .str (mkS eol) v)] G G.refused hA ?hp ?hb ?hs ?hbind ?hcell ?hloc ?hco ?hgen ?hk ?_
  wtm_at "ku_lit"
  wtm_at "ku_bind0"
  intro h₁ k₁ L cdv A' Qf hA' hR F N
  have hn1 := G.nenc
  obtain ⟨ue, ve, hE⟩ := G.enc
  refine k_cons (wpAny_Try_except ?_)
  repeat' wtm_at "ku"
  refine k_own hE F N ?_
  repeat' wtm_at "ku"
  refine ⟨_, _, rfl, F, N, c_encG (n := n) (mm := 4) (G.keeps F.keep) hA' (.inl ⟨_, _, rfl⟩) (fun c hc => nomatch hc) (Nat.zero_le _) (by decide) (by decide) he fun tb h5 k5 x5 => ?_⟩
  exact fun _ => hR _ _ _ (hQ _ _ _ (Ext.trans F.keep x5))
theorem k_strE {x : Str} {l : T} {kd : Nat} {pos : Pos} {env : Env} {Q : Value → Shared → Prop} (hx : x = mkS l) (hq : Q (.str (mkS l) k) (S s₀ h (k + 1))) : wpAny (model prog w) A (eval (.Constant (.str x) kd pos) env) Q E (S s₀ h k) := by
  subst hx; exact wpAny_Constant_str (s := S s₀ h k) hq
theorem o_chrE {c : Nat} {t : Tok} {Q : Value → Shared → Prop} (hc : c < 1000) (hq : Q (.str (mkS [c]) k) (S s₀ h (k + 1))) : wpAny (model prog w) A (call (.builtin "chr") [.int (c : Int) t]) Q E (S s₀ h k) := by
  refine P.chr_of_int (s := S s₀ h k) ?_ ?_
  · rw [decide_eq_false (by (first | lia | omega)), decide_eq_false (by (first | lia | omega))]; rfl
  · exact hq
theorem o_litem {value slice : PySem.Expr} {D : Addr} {vs : List Value} {i : Int} {v : Value} {u : Tok} {Q : Value → Shared → Prop} (n : Nat) (hi : i = (n : Int)) (hl : h.IsList D vs.toArray) (hv : vs[n]? = some v) (hn : n < 2 ^ 60) (hq : Q v (S s₀ h k))
    (hs : subscripted slice false (.ref D) (.int i u) = operate [.ref D, .int i u] (getItem (.ref D) (.int i u)) := by with_unfolding_all rfl) :
    wpAny (model prog w) A (subscriptTail value slice (.ref D) (.int i u)) Q E (S s₀ h k) := by
  subst hi
  exact tail_any (s := S s₀ h k) hl.typeIs slot_list_getitem.lookup (wpAny_getItem_list (s := S s₀ h k) hl (by (first | lia | omega)) (by (first | lia | omega)) (by simpa using hv) hq) hs
theorem o_titem {value slice : PySem.Expr} {D : Addr} {vs : List Value} {i : Int} {v : Value} {u : Tok} {Q : Value → Shared → Prop} (n : Nat) (hi : i = (n : Int)) (hl : h.IsTuple D vs.toArray) (hv : vs[n]? = some v) (hn : n < 2 ^ 60) (hq : Q v (S s₀ h k))
    (hs : subscripted slice false (.ref D) (.int i u) = operate [.ref D, .int i u] (getItem (.ref D) (.int i u)) := by with_unfolding_all rfl) :
    wpAny (model prog w) A (subscriptTail value slice (.ref D) (.int i u)) Q E (S s₀ h k) := by
  subst hi
  have hlt : n < vs.length := (List.getElem?_eq_some_iff.mp hv).1
  have ht : IsTup (S s₀ h k).heap D vs.toArray := hl
  refine tail_any (s := S s₀ h k) ht.typeIs slot_tuple_getitem.lookup (getItem_tuple (j := n) ht (by (first | lia | omega)) (by (first | lia | omega)) ?_ (by simpa using hv) hq) hs
  simp [seqIndex?]; (first | lia | omega)
theorem o_lenl {D : Addr} {vs : List Value} {Q : Value → Shared → Prop} (hl : h.IsList D vs.toArray) (hn : vs.length < 2 ^ 60) (hq : ∀ t k', Q (.int (vs.length : Nat) t) (S s₀ h k')) : wpAny (model prog w) A (call (.builtin "len") [.ref D]) Q E (S s₀ h k) := by
  refine len_list (s := S s₀ h k) hl (by simp; (first | lia | omega)) ?_
  rw [List.size_toArray]; exact hq _ _
theorem o_range2 {a b : Int} {t1 t2 : Tok} {h₀ : Heap} {L : Addr} {m : Str → Option Value} {news : List (Addr × Obj)} {Q : Value → Shared → Prop} (F : Fr h₀ L h m) (N : News h₀ L h news)
    (hq : ∀ r h' k' t3, IsRange h' r a b 1 t1 t2 t3 → Fr h₀ L h' m → News h₀ L h' news → Q (.ref r) (S s₀ h' k')) : wpAny (model prog w) A (call (.type "range") [.int a t1, .int b t2]) Q E (S s₀ h k) := by
  refine call_range_2 (s := S s₀ h k) ?_
  exact hq _ _ _ _ (Heap.get?_push_size _ rfl) (F.push _) fun p hp => ⟨Heap.get?_push_of_some _ (N p hp).1, (N p hp).2⟩
/-- list(range(a, b)) -/
theorem o_listrange {r : Addr} {a b : Int} {n : Nat} {t1 t2 t3 : Tok} {h₀ : Heap} {L : Addr} {m : Str → Option Value} {news : List (Addr × Obj)} {Q : Value → Shared → Prop} (hh : A.handled = none) (F : Fr h₀ L h m) (N : News h₀ L h news) (hr : IsRange h r a b 1 t1 t2 t3)
    (hsm : Builtin.Range.small a b 1 = true) (hn : Builtin.Range.rangeSize a b 1 = (n : Int)) (hz : n ≤ 2 ^ 24)
    (hq : ∀ D us c h' k', Fr h₀ L h' m → News h₀ L h' ((D, listOf (List.toArray us) c) :: news) → IntsAre us (rangeKs a n) → Q (.ref D) (S s₀ h' k')) : wpAny (model prog w) A (call (.type "list") [.ref r]) Q E (S s₀ h k) :=
  kll_range (s := S s₀ h k) hh F N hr hsm hn hz fun D us c h' tk F' N' _ hI => hq D us c h' tk F' N' hI
theorem o_sum {D : Addr} {vs : List Value} {ns : List Int} {Q : Value → Shared → Prop} (hh : A.handled = none) (hl : h.IsList D vs.toArray) (hi : IntsAre vs ns) (hq : ∀ z t h' k', Ext h h' → Q (.int z t) (S s₀ h' k')) : wpAny (model prog w) A (call (.builtin "sum") [.ref D]) Q E (S s₀ h k) := by
  obtain ⟨xs, e⟩ := hi.allInts.items
  rw [e] at hl
  exact sum_intListG (s := S s₀ h k) hh hl fun h' tk t' hk => hq _ _ h' tk hk
/-- v[k::2] -/
theorem o_lstep {env : Env} {lo st : PySem.Expr} {p : Pos} {value : PySem.Expr} {D : Addr} {vs : List Value} {ns : List Int} {Q : Value → Shared → Prop} (hl : h.IsList D vs.toArray) (hsz : vs.length ≤ 10000) (hi : IntsAre vs ns)
    (hq : wpAny (model prog w) A (evalPart (some lo) env) (fun lv s₁ => wpAny (model prog w) A (evalPart (some st) env) (fun sv s₂ => ∃ k' a b, s₂ = S s₀ h k' ∧ IsPart lv (some a) ∧ IsPart sv (some b) ∧ b ≠ 0 ∧
      (∀ R h'' us ms, Ext h h'' → h''.IsList R (List.toArray us) → IntsAre us ms → Q (.ref R) (S s₀ h'' k'))) E s₁) E (S s₀ h k))
    (hs : ∀ i, subscripted (.Slice (some lo) none (some st) p) false (.ref D) (.ref i) = operate [.ref D, .ref i] (getItem (.ref D) (.ref i)) := by intro _; with_unfolding_all rfl) :
    wpAny (model prog w) A (eval (.Slice (some lo) none (some st) p) env) (fun i s₂ => wpAny (model prog w) A (subscriptTail value (.Slice (some lo) none (some st) p) (.ref D) i) Q E s₂) E (S s₀ h k) := by
  refine wpAny_Slice (wpAny_mono hq (fun lv s₁ x => evalPart_none_step (wpAny_mono x (fun sv s₂ x => ?_) fun _ _ x => x)) fun _ _ x => x)
  obtain ⟨k', a, b, rfl, p1, p2, hb, hd⟩ := x
  have hl' : (h.push { cls := .type "slice", data := .fields #[lv, .none, sv] }).IsList D vs.toArray := hl.push _
  refine tail_any (s := S s₀ (h.push { cls := .type "slice", data := .fields #[lv, .none, sv] }) k') hl'.typeIs slot_list_getitem.lookup (wpAny_getItem_list_slice hl' (Heap.IsSliceOf.new ..) p1 .none p2 (by simpa using hb) ?_ (by unfold sizeLine; simp; (first | lia | omega))) (hs _)
  have hI := hi.pick (some a) none (some b)
  refine hd _ _ (slicePick vs.toArray (some a) none (some b)).toList _ (ext_push (ext_push (Ext.refl _))) ⟨_, Heap.get?_push_size _ rfl, rfl, _, rfl⟩ hI
open SeqAt in
theorem o_lne_ints {D D2 : Addr} {vs ws : List Value} {ns : List Int} {Q : Value → Shared → Prop} (h1 : h.IsList D vs.toArray) (h2 : h.IsList D2 ws.toArray) (i1 : IntsAre vs ns) (i2 : IntsAre ws ns) (hu : A.units < cLine) (hq : Q (.bool false) (S s₀ h k)) :
    wpAny (model prog w) A (compareOp .NotEq (.ref D) (.ref D2)) Q E (S s₀ h k) := by
  have l1 := i1.length
  have l2 := i2.length
  have hh := RcNeAt.lists (A := A) (s := S s₀ h k) (e := fun _ => true) h1 h2 (by simp; (first | lia | omega)) hu (fun j j1 j2 => ?_)
  · refine hh prog w E Q ?_
    have : ((List.range vs.toArray.size).all fun _ => true) = true := by simp
    rw [this]; exact hq
  · have j1' : j < vs.length := by simpa using j1
    have j2' : j < ws.length := by simpa using j2
    obtain ⟨t1, e1⟩ := i1.int_at j vs[j] (List.getElem?_eq_getElem j1')
    obtain ⟨t2, e2⟩ := i2.int_at j ws[j] (List.getElem?_eq_getElem j2')
    have e1' : vs.toArray[j] = .int (ns.getD j 0) t1 := by simpa using e1
    have e2' : ws.toArray[j] = .int (ns.getD j 0) t2 := by simpa using e2
    rw [e1', e2']
    have := EqAt.int_int (A := A.in1) (s := S s₀ h k) (ns.getD j 0) t1 (ns.getD j 0) t2
    simpa using this
/-- [a] * 2 -/
theorem o_lmul2 {D : Addr} {v : Value} {z : Nat} {u : Tok} {h₀ : Heap} {L : Addr} {m : Str → Option Value} {news : List (Addr × Obj)} {Q : Value → Shared → Prop} (F : Fr h₀ L h m) (N : News h₀ L h news) (hm : (D, listOf [v].toArray z) ∈ news)
    (hq : ∀ R h', Fr h₀ L h' m → News h₀ L h' ((R, listOf [v, v].toArray 0) :: news) → Q (.ref R) (S s₀ h' k)) : wpAny (model prog w) A (binaryOp .Mult (.ref D) (.int 2 u)) Q E (S s₀ h k) :=
  mul_list (s := S s₀ h k) F N (N _ hm).1 (by decide) (by decide) (by simp) fun h' F' N' => hq _ h' F' N'
open SeqAt in
/-- lists of lists of one like text each -/
theorem o_lne_msgs {D D2 M : Addr} {R : List Addr} {x : Str} {z z2 z3 : Nat} {t : Tok} {news : List (Addr × Obj)} {h₀ : Heap} {L : Addr} {Q : Value → Shared → Prop} (N : News h₀ L h news) (h1 : (D, listOf (R.map Value.ref).toArray z) ∈ news) (h2 : (D2, listOf (List.replicate R.length (Value.ref M)).toArray z2) ∈ news)
    (hR : ∀ a ∈ R, ∃ u zz, (a, listOf [Value.str x u].toArray zz) ∈ news) (hM : (M, listOf [Value.str x t].toArray z3) ∈ news) (hu : A.units + 1 < cLine) (hq : Q (.bool false) (S s₀ h k)) :
    wpAny (model prog w) A (compareOp .NotEq (.ref D) (.ref D2)) Q E (S s₀ h k) := by
  have hh := RcNeAt.lists (A := A) (s := S s₀ h k) (e := fun _ => true) (k_and_isL N h1) (k_and_isL N h2) (by simp) (by (first | lia | omega)) (fun j j1 j2 => ?_)
  · refine hh prog w E Q ?_
    have : ((List.range (R.map Value.ref).toArray.size).all fun _ => true) = true := by simp
    rw [this]; exact hq
  · have j1' : j < R.length := by simpa using j1
    obtain ⟨u, zz, hm⟩ := hR R[j] (List.getElem_mem _)
    have e1 : (R.map Value.ref).toArray[j] = .ref R[j] := by simp
    have e2 : (List.replicate R.length (Value.ref M)).toArray[j] = .ref M := by simp
    rw [e1, e2]
    by_cases e : R[j] = M
    · rw [e]; exact EqAt.same _
    · have hi := RcAt.lists (A := A.in1) (s := S s₀ h k) (e := fun _ => true) (k_and_isL N hm) (k_and_isL N hM) (by simp) (by show A.units + 1 < cLine; exact hu) (fun j j1 j2 => by
        have : j = 0 := by simp at j1; (first | lia | omega)
        subst this
        have := EqAt.str_str (A := A.in1.in1) (s := S s₀ h k) x u x t
        simpa using this)
      exact EqAt.of_refs e hi
/-- a for over a list of the ledger, with the count of tokens -/
theorem k_forK {h₀ : Heap} {cn : Str} {cs : Scope} {L a : Addr} {ccd : Value} {cl : List (Str × Addr)} {pos px : Pos} {x : Str} {body : List Stmt} {iter : PySem.Expr} {Q : Flow → Shared → Prop} (hx : (envX cn cs L a ccd cl).kindOf x = some .local) (hk : cs.kind = .function) (hA : A.handled = none)
    (hq : wpAny (model prog w) A (eval iter (envX cn cs L a ccd cl)) (fun xv s₁ => ∃ (l : Addr) (vs : List Value) (z : Nat) (h₁ : Heap) (k₁ : Nat) (vals : List (Str × Value)) (news : List (Addr × Obj)) (J : Nat → Nat → List (Str × Value) → List (Addr × Obj) → Prop), xv = .ref l ∧ s₁ = S s₀ h₁ k₁ ∧ Fr h₀ L h₁ (look vals) ∧ News h₀ L h₁ news ∧
      (∀ i k k' v nn, @LE.le Nat _ k k' → J i k v nn → J i k' v nn) ∧ (∀ i k v nn, J i k v nn → (l, listOf vs.toArray z) ∈ nn) ∧ J 0 k₁ vals news ∧
      (∀ i v vals₁ news₁ I oI h₂ k₂, vs[i]? = some v → J i k₂ vals₁ news₁ → news₁.map (·.1) = news.map (·.1) → (∀ p ∈ news₁, p.1 ≠ I) → Fr h₀ L h₂ (look ((x, v) :: vals₁)) → News h₀ L h₂ ((I, oI) :: news₁) →
        wpAny (model prog w) A (execs body (envX cn cs L a ccd cl)) (fun f s₃ => match f with | .ret v => Q (.ret v) s₃ | .brk => Q .next s₃ | _ => ∃ h' k' vals' news', s₃ = S s₀ h' k' ∧ Fr h₀ L h' (look vals') ∧ News h₀ L h' ((I, oI) :: news') ∧ news'.map (·.1) = news.map (·.1) ∧ J (i + 1) k' vals' news') NoE (S s₀ h₂ k₂)) ∧
      (∀ h' k' vals' news', Fr h₀ L h' (look vals') → News h₀ L h' news' → J vs.length k' vals' news' → Q .next (S s₀ h' k'))) NoE (S s₀ h k))
    (hs : ∀ x, foldedSetIterable iter (envX cn cs L a ccd cl) x = pure x := by intro _; rfl) :
    wpAny (model prog w) A (exec (.For (.Name x px) iter body [] pos) (envX cn cs L a ccd cl)) Q NoE (S s₀ h k) := by
  refine wpAny_For (wpAny_mono hq (fun xv s₁ q => ?_) fun _ _ e => e.elim) hs
  obtain ⟨l, vs, z, h₁, k₁, vals, news, J, rfl, rfl, F, N, hmono, hmem, h0, turn, done⟩ := q
  refine wpAny_pyIter_list (s := S s₀ h₁ k₁) (k_and_isL N (hmem _ _ _ _ h0)) ?_
  obtain ⟨I, hI⟩ : ∃ I, I = h₁.objs.size := ⟨_, rfl⟩
  have hsz : (S s₀ h₁ k₁).heap.objs.size = h₁.objs.size := rfl
  rw [hsz, ← hI]
  have hI0 : h₁.get? I = none := Heap.get?_none_of_le (by rw [hI]; exact Nat.le_refl _)
  have hIh := none_of_fr F hI0
  have hIL : I ≠ L := fun e => by obtain ⟨o, _, _, q, _⟩ := F.ns; rw [← e, hI0] at q; cases q
  have hIn : ∀ nn : List (Addr × Obj), nn.map (·.1) = news.map (·.1) → ∀ p ∈ nn, p.1 ≠ I := fun nn e p hp z => by
    have : p.1 ∈ news.map (·.1) := e ▸ List.mem_map_of_mem hp
    obtain ⟨q, hq, e'⟩ := List.mem_map.mp this
    have := (N q hq).1
    rw [e', z, hI0] at this; cases this
  refine codeAny_forLoop_any
    (fun n s' => ∃ h' k' vals' news' i, s' = S s₀ h' k' ∧ i ≤ vs.length ∧ n = vs.length + 1 - i ∧ h'.IsListIter I l i ∧ Fr h₀ L h' (look vals') ∧ News h₀ L h' news' ∧ news'.map (·.1) = news.map (·.1) ∧ J i k' vals' news') ?_ (vs.length + 1)
    ⟨_, k₁, vals, news, 0, rfl, Nat.zero_le _, rfl, ⟨_, by rw [hI]; exact Heap.get?_push_size _ rfl, rfl, rfl⟩, F.push _, fun p hp => ⟨Heap.get?_push_of_some _ (N p hp).1, (N p hp).2⟩, rfl, h0⟩
  rintro n s' ⟨h', k', vals', news', i, rfl, hi, rfl, hit, F', N', hkeys, hJ⟩
  have hl' := k_and_isL N' (hmem _ _ _ _ hJ)
  have hII := hIn news' hkeys
  cases hv : vs[i]? with
  | none =>
    refine wpAny_pyNext_list_end (s := S s₀ h' k') hA hit hl' (by simpa using hv) fun h₂ x₂ => ?_
    replace x₂ : Heap.ExtBut I h' h₂ := x₂
    have hin : i = vs.length := by
      have := List.getElem?_eq_none_iff.mp hv; (first | lia | omega)
    subst hin
    refine wpAny_execs_nil (done h₂ k' vals' news' ?_ (fun p hp => ⟨x₂ _ _ (hII p hp) (N' p hp).1, (N' p hp).2⟩) hJ)
    obtain ⟨o, es, ep, q, r⟩ := F'.ns
    exact ⟨⟨o, es, ep, x₂ _ _ (Ne.symm hIL) q, r⟩, fun b o q => x₂ b o (fun e => by rw [e, hIh] at q; cases q) (F'.keep b o q), F'.above⟩
  | some v =>
    refine wpAny_pyNext_list_item (s := S s₀ h' k') hit hl' (by simpa using hv) fun h₂ hit₂ hs₂ => ?_
    replace hs₂ : Heap.SameBut I h' h₂ := hs₂
    have F₂ : Fr h₀ L h₂ (look vals') := by
      obtain ⟨o, es, ep, q, r⟩ := F'.ns
      exact ⟨⟨o, es, ep, (hs₂.2 _ (Ne.symm hIL)).trans q, r⟩, fun b o q => (hs₂.2 b (fun e => by rw [e, hIh] at q; cases q)).trans (F'.keep b o q), F'.above⟩
    obtain ⟨oI, hoI, hcI⟩ := id hit₂
    have N₂ : News h₀ L h₂ ((I, oI) :: news') := fun p hp => by
      rcases List.mem_cons.mp hp with rfl | hp
      · exact ⟨hoI, hIL, hIh⟩
      · exact ⟨(hs₂.2 _ (hII p hp)).trans (N' p hp).1, (N' p hp).2⟩
    show wpAny _ _ (pure ()) _ _ _
    refine wpAny_pure (wpAny_assign_Name (storeX_L (s := S s₀ h₂ k') F₂ N₂ (fun h₃ F₃ N₃ => ?_) hk hx))
    refine wpAny_mono (turn i v vals' news' I oI h₃ (k' + 1) hv (hmono _ _ _ _ _ (Nat.le_succ _) hJ) hkeys hII F₃ N₃) (fun f s₃ q => ?_) fun _ _ e => e.elim
    have hlt : i < vs.length := (List.getElem?_eq_some_iff.mp hv).1
    have fin : (∃ h' k' vals' news', s₃ = S s₀ h' k' ∧ Fr h₀ L h' (look vals') ∧ News h₀ L h' ((I, oI) :: news') ∧ news'.map (·.1) = news.map (·.1) ∧ J (i + 1) k' vals' news') →
        ∃ m, m < vs.length + 1 - i ∧ ∃ h' k' vals' news' i', s₃ = S s₀ h' k' ∧ i' ≤ vs.length ∧ m = vs.length + 1 - i' ∧ h'.IsListIter I l i' ∧ Fr h₀ L h' (look vals') ∧ News h₀ L h' news' ∧ news'.map (·.1) = news.map (·.1) ∧ J i' k' vals' news' := by
      rintro ⟨h4, k4, v4, n4, rfl, F4, N4, e4, J4⟩
      exact ⟨vs.length + 1 - (i + 1), by (first | lia | omega), h4, k4, v4, n4, i + 1, rfl, hlt, rfl, ⟨oI, (N4 _ (.head _)).1, hcI⟩, F4, fun p hp => N4 p (.tail _ hp), e4, J4⟩
    cases f with
    | ret v => exact q
    | brk => exact q
    | next => exact fin q
    | cont => exact fin q
noncomputable abbrev tupOf (vs : List Value) : Obj := { cls := .type "tuple", data := .seq vs.toArray }
/-- a comprehension over a tuple, kept in a local; its elements may raise within -/
theorem k_compR {h₀ : Heap} {cn : Str} {cs : Scope} {L a : Addr} {ccd : Value} {cl cl2 : List (Str × Addr)} {vals : List (Str × Value)} {pos px py spos : Pos} {x y : Str} {elt iter : PySem.Expr} {scope : Scope} {Q : Flow → Shared → Prop} (_F : Fr h₀ L h (look vals)) (hh : A.handled = none)
    (hsw : swapsWith (.ListComp elt [⟨.Name x px, iter, [], 0⟩] scope pos) (some (.Name y py)) spos.line (envX cn cs L a ccd cl) = pure true)
    (hclos : closureFor scope (envX cn cs L a ccd cl) = pure cl2) (hcell : ∀ y ∈ scope.names, y.2 ≠ .cell) (hkind : scope.kind = .function)
    (hnames : ∀ y ∈ scope.names, y.2 = .local → scope.names.lookup y.1 = some .local) (hx : scope.names.lookup x = some .local)
    (hy : (envX cn cs L a ccd cl).kindOf y = some .local) (hck : cs.kind = .function)
    (hs : ∀ x, foldedSetIterable iter (envX cn cs L a ccd cl) x = pure x)
    (hit : wpAny (model prog w) A (eval iter (envX cn cs L a ccd cl)) (fun xv s₁ => ∃ (ax : Addr) (its : List Value) (news : List (Addr × Obj)) (h₁ : Heap) (k₁ : Nat), xv = .ref ax ∧ s₁ = S s₀ h₁ k₁ ∧ Fr h₀ L h₁ (look vals) ∧ News h₀ L h₁ news ∧ (ax, tupOf its) ∈ news ∧ its.length ≤ 1000 ∧
      ∀ g, LCg.CompRest prog w A h₀ L (look vals) (envX cn cs L a ccd cl) elt x scope cl2 (S s₀ g k₁) (fun nw => (ax, tupOf its) ∈ nw) (fun i v => its.toArray[i]? = some v)
        (fun ys nw => ∀ D h' tk, Fr h₀ L h' (look ((y, .ref D) :: vals)) → News h₀ L h' ((D, LCg.lst ys) :: nw) → Q .next (S s₀ h' tk)) its.toArray.size 0 [] news) E (S s₀ h k)) :
    wpAny (model prog w) A (exec (.Assign [.Name y py] (.ListComp elt [⟨.Name x px, iter, [], 0⟩] scope pos) spos) (envX cn cs L a ccd cl)) Q E (S s₀ h k) := by
  rw [exec_Assign_Name_used _ _ _ _ hsw]
  refine wpAny_bind (wpAny_standAt (wpAny_bind ?_))
  show wpAny _ A (do let _ ← comprehension (.ListComp elt [⟨.Name x px, iter, [], 0⟩] scope pos) scope (envX cn cs L a ccd cl) _ (newList []) false (eval iter (envX cn cs L a ccd cl)) (some (assign (.Name y py) (envX cn cs L a ccd cl)))) _ _ _
  refine wpAny_bind (wpAny_mono (wpAny_comprehension_free (use := some (assign (.Name y py) (envX cn cs L a ccd cl))) (Q := fun _ s' => Q .next s') rfl hs hclos hkind hnames
    (wpAny_mono hit (fun xv s₁ q => ?_) fun e s' q => q)) (fun _ s' hq => wpAny_pure (wpAny_pure hq)) fun _ _ e => e)
  obtain ⟨ax, its, news, h₁, k₁, rfl, rfl, F, N, hmT, hsz, R⟩ := q
  have hT : (S s₀ h₁ k₁).heap.IsTuple ax its.toArray := ⟨_, (N _ hmT).1, rfl, _, rfl⟩
  have hlt : ax < h₁.objs.size := Heap.lt_size (N _ hmT).1
  refine wpAny_pyIter_tuple hT ?_
  have hg : ((S s₀ h₁ k₁).heap.push { cls := .type "tuple_iterator", data := .fields #[.ref ax, .int 0 0] }).get? h₁.objs.size = some { cls := .type "tuple_iterator", data := .fields #[.ref ax, .int 0 0] } := Heap.get?_push_size _ rfl
  have up : ∀ b o, h₁.get? b = some o → (h₁.push { cls := .type "tuple_iterator", data := .fields #[.ref ax, .int 0 0] }).get? b = some o := fun b o e => Heap.get?_push_of_some _ e
  refine LCg.block_U (h₀ := h₀) (L := L) (m := look vals) (S := fun nw => (ax, tupOf its) ∈ nw) (RR := fun acc C => compPost (model prog w) A E (some (assign (.Name y py) (envX cn cs L a ccd cl))) (fun _ s' => Q .next s') acc C)
    (Walks.tuple hh h₁.objs.size ax (Nat.ne_of_lt hlt) its.toArray) (by unfold sizeLine; simp; (first | lia | omega)) (fun i h st => by obtain ⟨o, e, _⟩ := st.1; exact ⟨o, e⟩)
    (fun i h h' o nw st e e' _ N' hm => ⟨by obtain ⟨o', q, r⟩ := st.1; have e3 : o' = o := Option.some.inj (q.symm.trans e); subst e3; exact ⟨o', e', r⟩, ⟨_, (N' _ hm).1, rfl, _, rfl⟩⟩) hcell hkind hx ⟨⟨_, hg, rfl, rfl⟩, ⟨_, up _ _ (N _ hmT).1, rfl, _, rfl⟩⟩ (fun b hb => ?_)
    (F.keeps up) (fun p hp => ⟨up _ _ (N p hp).1, (N p hp).2⟩) (Nat.ne_of_lt F.ns.lt) (none_of_fr F (Heap.get?_none_of_le (Nat.le_refl _))) (fun p hp => Nat.ne_of_lt (Heap.lt_size (N p hp).1)) hmT (R _) ?_
  · show b < (h₁.push _).objs.size
    rw [Heap.size_push]
    rcases List.mem_cons.mp hb with rfl | hb
    · exact Nat.lt_succ_self _
    · rw [List.mem_singleton.mp hb]; exact Nat.lt_succ_of_lt hlt
  · intro D C h' tk m' ys news' F' N' o1 hn hC₀ hD₀ hCL hDL hCD offC fin
    show wpAny _ A (assign (.Name y py) (envX cn cs L a ccd cl) (.ref D)) _ _ _
    obtain ⟨oC, hoC, hnC⟩ := LCg.ns_obj hn
    have N2 : News h₀ L h' ((C, oC) :: (D, LCg.lst ys) :: news') := fun p hp => by
      rcases List.mem_cons.mp hp with rfl | hp
      · exact ⟨hoC, hCL, hC₀⟩
      · exact N' p hp
    refine wpAny_assign_Name (storeX_L (s := S s₀ h' tk) F' N2 (fun h5 F5 N5 => ?_) hck hy)
    refine ⟨_, hnC.ns (N5 _ (.head _)).1, fun h₄ hs₄ => ?_⟩
    replace hs₄ : Heap.SameBut C h5 h₄ := hs₄
    have F5' : Fr h₀ L h5 (look ((y, .ref D) :: vals)) := F5
    refine fin D h₄ (tk + 1) ⟨?_, fun b o q => (hs₄.2 b fun z => by rw [z, hC₀] at q; cases q).trans (F5'.keep _ _ q), F5'.above⟩ (fun p hp => ?_)
    · obtain ⟨o, es, ep, q, r⟩ := F5'.ns
      exact ⟨o, es, ep, (hs₄.2 _ (Ne.symm hCL)).trans q, r⟩
    · refine ⟨(hs₄.2 _ ?_).trans (N5 p (.tail _ hp)).1, (N5 p (.tail _ hp)).2⟩
      rcases List.mem_cons.mp hp with rfl | hp
      · exact Ne.symm hCD
      · exact offC p hp
theorem cells_eight {cm : Str → Option Value} {n₁ n₂ n₃ n₄ n₅ n₆ n₇ n₈ : Str} {c₁ c₂ c₃ c₄ c₅ c₆ c₇ c₈ : Addr} {cells : List (Addr × Obj)} (x : CellsAre cm [(n₁, c₁), (n₂, c₂), (n₃, c₃), (n₄, c₄), (n₅, c₅), (n₆, c₆), (n₇, c₇), (n₈, c₈)] cells) :
    ∃ o₁ o₂ o₃ o₄ o₅ o₆ o₇ o₈, cells = [(c₁, o₁), (c₂, o₂), (c₃, o₃), (c₄, o₄), (c₅, o₅), (c₆, o₆), (c₇, o₇), (c₈, o₈)] ∧ o₁.data = .cell (cm n₁) ∧ o₂.data = .cell (cm n₂) ∧ o₃.data = .cell (cm n₃) ∧ o₄.data = .cell (cm n₄) ∧ o₅.data = .cell (cm n₅) ∧ o₆.data = .cell (cm n₆) ∧ o₇.data = .cell (cm n₇) ∧ o₈.data = .cell (cm n₈) := by
  cases x with | cons h1 r => cases r with | cons h2 r => cases r with | cons h3 r => cases r with | cons h4 r =>
    obtain ⟨o₅, o₆, o₇, o₈, rfl, h5, h6, h7, h8⟩ := r.four
    exact ⟨_, _, _, _, o₅, o₆, o₇, o₈, rfl, h1, h2, h3, h4, h5, h6, h7, h8⟩
theorem with_body {i : Nat} {body : List Stmt} {scope : Scope} (P : List Stmt → Scope → Prop) (hb : fbody i = body) (hs : fscope i = scope) (hp : P body scope) : P (fbody i) (fscope i) := by subst hb hs; exact hp
theorem cne {L : Addr} {i j : Nat} (h : i ≠ j) : (@HAdd.hAdd Nat Nat Nat _ L i : Addr) ≠ (@HAdd.hAdd Nat Nat Nat _ L j : Addr) := fun e => h (Nat.add_left_cancel e)
noncomputable def OffL (c : Addr) (l : List (Addr × Obj)) : Prop := ∀ p ∈ l, p.1 ≠ c
theorem off_nil {c : Addr} : OffL c [] := fun _ h => nomatch h
theorem off_cons {c a : Addr} {o : Obj} {l : List (Addr × Obj)} (h : a ≠ c) (r : OffL c l) : OffL c ((a, o) :: l) := fun p hp => by
  rcases List.mem_cons.mp hp with rfl | hp
  · exact h
  · exact r p hp
theorem ne_data {h₀ : Heap} {L R c : Addr} {news : List (Addr × Obj)} {oR o : Obj} {v : Option Value} (N : News h₀ L h news) (h1 : (R, oR) ∈ news) (h2 : (c, o) ∈ news) (ho : o.data = .cell v) (hr : ∀ v, oR.data ≠ .cell v) : R ≠ c := fun e => by
  have q1 := (N _ h1).1
  have q2 := (N _ h2).1
  rw [e] at q1
  have q3 : some oR = some o := q1.symm.trans q2
  have q4 := congrArg Obj.data (Option.some.inj q3)
  exact hr v (q4.trans ho)
theorem list_nc {vs : Array Value} {z : Nat} : ∀ v, (listOf vs z).data ≠ .cell v := fun _ e => nomatch e
theorem tup_nc {vs : Array Value} : ∀ v, ({ cls := .type "tuple", data := .seq vs } : Obj).data ≠ .cell v := fun _ e => nomatch e
local macro_rules | `(tactic| wtm_at "ku_off") => `(tactic| ((repeat' (first | exact off_nil | refine off_cons ?_ ?_)); (all_goals first | exact cne (by decide) | exact ne_data (by with_reducible assumption) (by wtm_at "ku_mem") (by wtm_at "ku_mem") (by with_reducible assumption) (by first | exact list_nc | exact tup_nc))))
theorem news_pick {h₀ : Heap} {L : Addr} {big rest : List (Addr × Obj)} {p : Addr × Obj} (N : News h₀ L h big) (hm : p ∈ big) (r : News h₀ L h rest) : News h₀ L h (p :: rest) := fun q hq => by
  rcases List.mem_cons.mp hq with rfl | hq
  · exact N _ hm
  · exact r q hq
local macro_rules | `(tactic| wtm_at "ku_pick") => `(tactic| (repeat' (first | exact News.nil | refine news_pick (by with_reducible assumption) (by wtm_at "ku_mem") ?_)))
theorem k_storeE {x : Str} {v : Value} {h₀ : Heap} {cn : Str} {cs : Scope} {L a : Addr} {ccd : Value} {cl : List (Str × Addr)} {vals : List (Str × Value)} {news : List (Addr × Obj)} {Q : Unit → Shared → Prop} (F : Fr h₀ L h (look vals)) (N : News h₀ L h news)
    (hq : ∀ h', Fr h₀ L h' (look ((x, v) :: vals)) → News h₀ L h' news → Q () (S s₀ h' (k + 1)))
    (hx : (envX cn cs L a ccd cl).kindOf x = some .local) (hk : cs.kind = .function) : wpAny (model prog w) A (storeName (envX cn cs L a ccd cl) x v) Q E (S s₀ h k) :=
  storeX_L (s := S s₀ h k) F N (fun h' F' N' => hq h' F' N') hk hx
local macro_rules | `(tactic| wtm_at "ku") => `(tactic| first | (with_reducible refine k_strE (by wtm_at "ku_txt") ?_) | ((with_reducible show wpAny _ _ (storeName _ _ _) _ _ _); refine k_storeE (by with_reducible assumption) (by with_reducible assumption) ?_ (by rfl) (by rfl); intro _ _ _))
theorem o_enum {h₀ : Heap} {L D : Addr} {m : Str → Option Value} {news : List (Addr × Obj)} {vs : List Value} {Q : Value → Shared → Prop} (F : Fr h₀ L h m) (N : News h₀ L h news) (hl : h.IsList D vs.toArray)
    (hq : ∀ e it h', e ≠ it → D ≠ e → D ≠ it → IsEnum h' e it 0 .none → h'.IsListIter it D 0 → h'.IsList D vs.toArray → Fr h₀ L h' m → News h₀ L h' news → L ≠ e → L ≠ it → h₀.get? e = none → h₀.get? it = none → (∀ p ∈ news, p.1 ≠ e ∧ p.1 ≠ it) → Q (.ref e) (S s₀ h' k)) :
    wpAny (model prog w) A (call (.type "enumerate") [.ref D]) Q E (S s₀ h k) := by
  refine call_enumerate_list (s := S s₀ h k) hl fun h' e2 i2 z2 kp => ?_
  replace kp : ∀ b o, h.get? b = some o → h'.get? b = some o := kp
  have hD : D < h.objs.size := by obtain ⟨_, q, _⟩ := hl; exact Heap.lt_size q
  have hL := F.ns.lt
  have nm : ∀ p ∈ news, p.1 < h.objs.size := fun p hp => Heap.lt_size (N p hp).1
  have n1 : ∀ b : Addr, b < h.objs.size → b ≠ h.objs.size + 1 := fun b hb => Nat.ne_of_lt (Nat.lt_succ_of_lt hb)
  have n0 : ∀ b : Addr, b < h.objs.size → b ≠ h.objs.size := fun b hb => Nat.ne_of_lt hb
  exact hq _ _ h' (Nat.succ_ne_self _) (n1 _ hD) (n0 _ hD) e2 i2 (hl.at fun o q => kp _ o q) (F.keeps kp) (fun p hp => ⟨kp _ _ (N p hp).1, (N p hp).2⟩) (n1 _ hL) (n0 _ hL)
    (none_of_fr F (Heap.get?_none_of_le (Nat.le_succ _))) (none_of_fr F (Heap.get?_none_of_le (Nat.le_refl _))) fun p hp => ⟨n1 _ (nm p hp), n0 _ (nm p hp)⟩
theorem draws_two {ys : List Value} (hl : ys.length = 2) (h : ∀ (j : Nat) (v : Value), ys[j]? = some v → ∃ (x : Nat) (t : Tok), v = .int (x : Int) t ∧ x < 1000000) : ∃ (x0 x1 : Nat) (t0 t1 : Tok), ys = [.int (x0 : Int) t0, .int (x1 : Int) t1] ∧ x0 < 1000000 ∧ x1 < 1000000 := by
  match ys, hl with
  | [a, b], _ =>
    obtain ⟨x0, t0, rfl, h0⟩ := h 0 _ rfl
    obtain ⟨x1, t1, rfl, h1⟩ := h 1 _ rfl
    exact ⟨x0, x1, t0, t1, rfl, h0, h1⟩
theorem pick4 {n : Nat} (hn : n < 4) (t1 t2 t3 t4 : Tok) : ∃ (a : Nat) (t : Tok), [Value.int 1 t1, .int 2 t2, .int 4 t3, .int 5 t4][n]? = some (.int (a : Int) t) ∧ (a = 1 ∨ a = 2 ∨ a = 4 ∨ a = 5) := by
  match n, hn with
  | 0, _ => exact ⟨1, _, rfl, .inl rfl⟩
  | 1, _ => exact ⟨2, _, rfl, .inr (.inl rfl)⟩
  | 2, _ => exact ⟨4, _, rfl, .inr (.inr (.inl rfl))⟩
  | 3, _ => exact ⟨5, _, rfl, .inr (.inr (.inr rfl))⟩
theorem pick3 {n : Nat} (hn : n < 3) (t1 t2 t3 : Tok) : ∃ (e : T) (t : Tok), [Value.str (mkS [13]) t1, .str (mkS [10]) t2, .str (mkS [13, 10]) t3][n]? = some (.str (mkS e) t) ∧ IsMark e := by
  match n, hn with
  | 0, _ => exact ⟨[13], _, rfl, .inr (.inl rfl)⟩
  | 1, _ => exact ⟨[10], _, rfl, .inl rfl⟩
  | 2, _ => exact ⟨[13, 10], _, rfl, .inr (.inr rfl)⟩
theorem pick2 {n : Nat} (hn : n < 2) (x y : T) (t1 t2 : Tok) : ∃ (e : T) (t : Tok), [Value.str (mkS x) t1, .str (mkS y) t2][n]? = some (.str (mkS e) t) ∧ (e = x ∨ e = y) ∧ (t = t1 ∨ t = t2) := by
  match n, hn with
  | 0, _ => exact ⟨x, _, rfl, .inl rfl, .inl rfl⟩
  | 1, _ => exact ⟨y, _, rfl, .inr rfl, .inr rfl⟩
theorem kinds_t : rangeKs 33 28 ++ rangeKs 62 65 = (kindsT true).map Int.ofNat := by decide +kernel
theorem kinds_f : rangeKs 0 9 ++ [11, 12] ++ rangeKs 14 18 ++ [61] ++ rangeKs 127 129 = (kindsT false).map Int.ofNat := by decide +kernel
/-- a sign of the drawn deck -/
noncomputable def FmSign (l : T) (i : Nat) (z : Value) (k : Nat) : Prop := ∃ u : Nat, z = .str (mkS [l.getD i 0]) u ∧ u ≠ 0 ∧ u < k
theorem deck_strs : ∀ (l : T) (ys : List Value) (k : Nat), ys.length = l.length → (∀ (j : Nat) (v : Value), ys[j]? = some v → FmSign l j v k) → ∃ dd : List (Str × Tok), ys = strValues dd ∧ dd.map (·.1) = l.map (fun c => mkS [c]) ∧ ∀ p ∈ dd, @Ne Nat p.2 0 ∧ @LT.lt Nat _ p.2 k
  | [], [], _, _, _ => ⟨[], rfl, rfl, fun _ h => nomatch h⟩
  | c :: l, y :: ys, k, hl, h => by
    obtain ⟨u, rfl, h1, h2⟩ := h 0 y rfl
    obtain ⟨dd, e1, e2, e3⟩ := deck_strs l ys k (by simpa using hl) fun j v hv => by
      obtain ⟨u, e, q⟩ := h (j + 1) v (by simpa using hv)
      exact ⟨u, by simpa using e, q⟩
    refine ⟨(mkS [c], u) :: dd, by rw [e1]; rfl, by rw [List.map_cons, e2]; rfl, fun p hp => ?_⟩
    rcases List.mem_cons.mp hp with rfl | hp
    · exact ⟨h1, h2⟩
    · exact e3 p hp
theorem draw_at {bare : Bool} {s a i : Nat} (hi : i < 12) : (drawT bare s a).getD i 0 = (kindsT bare).getD ((s + a * i) % kindsN bare) 0 := by
  unfold drawT
  rw [List.getD_eq_getElem?_getD, List.getElem?_map, List.getElem?_range hi]; rfl
theorem ints_nat {us : List Value} {l : T} (h : IntsAre us (l.map Int.ofNat)) : us.length = l.length ∧ ∀ n < l.length, ∃ t, us[n]? = some (.int ((l.getD n 0 : Nat) : Int) t) := by
  have hl : us.length = l.length := by have := h.length; simpa using this
  refine ⟨hl, fun n hn => ?_⟩
  obtain ⟨t, e⟩ := h.int_at n us[n] (List.getElem?_eq_getElem (by (first | lia | omega)))
  refine ⟨t, ?_⟩
  rw [List.getElem?_eq_getElem (by (first | lia | omega)), e]
  rw [List.getD_eq_getElem?_getD, List.getElem?_map, List.getD_eq_getElem?_getD, List.getElem?_eq_getElem hn]
  rfl
noncomputable def FmDraw (_i : Nat) (z : Value) : Prop := ∃ (x : Nat) (t : Tok), z = .int (x : Int) t ∧ x < 1000000
theorem split_wp {M : Model} {Γ : Ctx} {env : Env} {E : Value → Shared → Prop} {Q : Flow → Shared → Prop} (b : List Stmt) : ∀ (a : List Stmt) (p : Pos) (s : Shared),
    Sem.wp M Γ (execs a env) (fun f p' s' => match f with | .next => Sem.wp M Γ (execs b env) (fun f _ s'' => Q f s'') (fun e _ s'' => E e s'') p' s' | f => Q f s') (fun e _ s' => E e s') p s →
    Sem.wp M Γ (execs (a ++ b) env) (fun f _ s' => Q f s') (fun e _ s' => E e s') p s
  | [], p, s, h => h
  | x :: r, p, s, h => by
    rw [execs_cons, Sem.wp_bind'] at h
    rw [List.cons_append, execs_cons, Sem.wp_bind']
    refine Sem.wp_mono M Γ _ (fun f p' s' h' => ?_) (fun _ _ _ h' => h') _ _ h
    cases f <;> first | exact split_wp b r p' s' h' | exact h'
theorem k_split {a b : List Stmt} {env : Env} {Q : Flow → Shared → Prop} {s : Shared} (h : wpAny (model prog w) A (execs a env) (Seq prog w A b env Q E) E s) : wpAny (model prog w) A (execs (a ++ b) env) Q E s := fun Γ p hΓ => by
  refine split_wp b a p s (Sem.wp_mono _ Γ _ (fun f p' s' h' => ?_) (fun _ _ _ h' => h') _ _ (h Γ p hΓ))
  cases f <;> first | exact h' Γ p' hΓ | exact h'
noncomputable abbrev cl8 (L : Addr) : List (Str × Addr) := [(Str.ofString "line", L + 8), (Str.ofString "turned", L + 7), (Str.ofString "held", L + 6), (Str.ofString "ends", L + 5), (Str.ofString "apart", L + 4), (Str.ofString "kinds", L + 3), (Str.ofString "draws", L + 2), (Str.ofString "numbers", L + 1)]
theorem law_A1 {h₀ : Heap} {L f : Addr} {cdv : Value} {R : Addr} {vs : List Value} {ns : List Int} {o1 o2 o3 o4 o5 o6 o7 o8 : Obj} {Q : Flow → Shared → Prop} {n : Nat} (G : Glb d mg mb h₀) (hA : AOk A n) (hl : h₀.IsList R vs.toArray) (hi : IntsAre vs ns) (hsz : vs.length ≤ 100)
    (F : Fr h₀ L h (look [(Str.ofString "script", .ref R)])) (N : News h₀ L h [(L + 8, o8), (L + 7, o7), (L + 6, o6), (L + 5, o5), (L + 4, o4), (L + 3, o3), (L + 2, o2), (L + 1, o1)])
    (y1 : o1.data = .cell none) (y2 : o2.data = .cell none) (y3 : o3.data = .cell none) (y4 : o4.data = .cell none) (y5 : o5.data = .cell none) (y6 : o6.data = .cell none) (y7 : o7.data = .cell none) (y8 : o8.data = .cell none)
    (hQ : ∀ (h' : Heap) (k' : Nat) (x0 x1 : Nat) (t0 t1 tap : Tok) (bb : Bool) (ap : Nat) (K3 DL NL : Addr) (us dl nl : List Value) (nn : List Int) (z3 z : Nat) (o1 o2 o3 o4 o5 o6 o7 o8 : Obj), Fr h₀ L h' (look [(Str.ofString "bare", .bool bb), (Str.ofString "script", .ref R)]) →
      News h₀ L h' [(K3, listOf us.toArray z3), (DL, listOf dl.toArray z), (NL, listOf nl.toArray 0), (L + 8, o8), (L + 7, o7), (L + 6, o6), (L + 5, o5), (L + 4, o4), (L + 3, o3), (L + 2, o2), (L + 1, o1)] →
      o8.data = .cell none → o7.data = .cell none → o6.data = .cell none → o5.data = .cell none → o4.data = .cell (some (.int (ap : Int) tap)) → o3.data = .cell (some (.ref K3)) → o2.data = .cell (some (.ref DL)) → o1.data = .cell (some (.ref NL)) →
      IntsAre us ((kindsT bb).map Int.ofNat) → dl = [.int (x0 : Int) t0, .int (x1 : Int) t1] → x0 < 1000000 → x1 < 1000000 → IntsAre nl nn → nl.length ≤ 60 → (ap = 1 ∨ ap = 2 ∨ ap = 4 ∨ ap = 5) → 0 < k' → Q .next (S s₀ h' k')) :
    wpAny (model prog w) A (execs ((fbody 34).take 6) (envX (fname 34) (fscope 34) L f cdv (cl8 L))) Q NoE (S s₀ h k) := by
  refine' with_body (i := 34) (fun b sc => wpAny (model prog w) A (execs (b.take 6) (envX (fname 34) sc L f cdv (cl8 L))) Q NoE (S s₀ h k)) ?hb ?hs ?_
  case hb => (conv => lhs; whnf); (try exact rfl)
  case hs => (conv => lhs; whnf); (try exact rfl)
  simp only [List.take_succ_cons, List.take_zero]

  repeat' wtm_at "ku"
  have hlF := hl.at fun o e => F.keep _ _ e
  refine o_lslice2 (D := R) (vs := vs) F N (by (first | lia | omega)) ?_
  repeat' wtm_at "ku"
  refine ⟨_, _, _, _, _, rfl, F, N, hlF, .none, .int _ _, pick_upto (y := 60), fun NL ha ka Fa Na => ?_⟩
  have hnl := hi.take 60
  have hnlen : (vs.take 60).length ≤ 60 := by rw [List.length_take]; (first | lia | omega)
  obtain ⟨nl, hnl0⟩ : ∃ y, y = vs.take 60 := ⟨_, rfl⟩
  obtain ⟨nn, hnn0⟩ : ∃ y, y = ns.take 60 := ⟨_, rfl⟩
  rw [← hnl0, ← hnn0] at hnl
  rw [← hnl0] at hnlen Na
  refine k_storec (pre := [(NL, listOf nl.toArray 0), (L + 8, o8), (L + 7, o7), (L + 6, o6), (L + 5, o5), (L + 4, o4), (L + 3, o3), (L + 2, o2)]) (post := []) Fa Na y1 ?b1 ?b2 (fun hb o1' y1' Fb Nb => ?_) rfl rfl rfl
  case b1 => (show OffL _ _); wtm_at "ku_off"
  case b2 => (show OffL _ _); wtm_at "ku_off"
  replace Nb : News h₀ L hb [(NL, listOf nl.toArray 0), (L + 8, o8), (L + 7, o7), (L + 6, o6), (L + 5, o5), (L + 4, o4), (L + 3, o3), (L + 2, o2), (L + 1, o1')] := fun p hp => Nb p hp
  repeat' wtm_at "ku"
  have hnlm := k_and_isL (D := NL) (vs := nl) (z := 0) Nb (by wtm_at "ku_mem")
  refine k_compP Fb Nb hA.handled 2 (fun _ v => ∃ x t, v = .int x t) FmDraw (by decide) rfl ?hcell1 rfl ?hnames1 rfl rfl ?hxy1 ?hs1 ?hit1 ?helt1 ?done1
  case hcell1 => decide
  case hnames1 => decide
  case hxy1 => decide
  case hs1 => intro _; rfl
  case hit1 =>
    repeat' wtm_at "ku"
    rename_i DE hx Fx Nx _
    refine o_enum Fx Nx (k_and_isL Nx (by wtm_at "ku_mem")) fun e it h' q1 q2 q3 q4 q5 q6 Fy Ny q7 q8 q9 q10 q11 => ?_
    refine ⟨_, e, it, DE, h', _, rfl, ?_, rfl, rfl, q1, q2, q3, q4, q5, q6, Fy, fun p hp => Ny p (.tail _ hp), q7, q8, q9, q10, fun p hp => q11 p (.tail _ hp)⟩
    intro i v hv
    have : i < 2 := by simpa using (List.getElem?_eq_some_iff.mp hv).1
    have h01 : i = 0 ∨ i = 1 := by (first | lia | omega)
    rcases h01 with rfl | rfl <;> (cases hv; exact ⟨_, _, rfl⟩)
  case helt1 =>
    rintro s₃ C i v ti h₃ k₃ m₃ E' ⟨xo, to, rfl⟩ hn hm1 hm2 F3 N3
    repeat' wtm_at "ku"
    refine o_lstep (k_and_isL N3 (by wtm_at "ku_mem")) (by (first | lia | omega)) hnl ?_
    repeat' wtm_at "ku"
    refine ⟨_, _, _, rfl, .int _ _, .int _ _, by decide, fun R9 h9 us ms x9 l9 i9 => ?_⟩
    repeat' wtm_at "ku"
    refine o_sum hA.handled l9 i9 fun zz tz h10 k10 x10 => ?_
    repeat' wtm_at "ku"
    refine o_pow (by decide) (by decide) fun _ _ => ?_
    refine o_mod (by decide) fun t11 k11 => ⟨?_, h10, k11, rfl, x9.trans x10⟩
    have e1 := Int.emod_nonneg (xo + zz) (b := (10 : Int) ^ (6 : Int).toNat) (by decide)
    have e2 := Int.emod_lt_of_pos (xo + zz) (b := (10 : Int) ^ (6 : Int).toNat) (by decide)
    refine ⟨((xo + zz) % (10 : Int) ^ (6 : Int).toNat).toNat, t11, by rw [Int.toNat_of_nonneg e1], ?_⟩
    have e3 : (10 : Int) ^ (6 : Int).toNat = 1000000 := by decide
    rw [e3] at e1 e2 ⊢; (first | lia | omega)
  case done1 =>
    rintro DL hc kc ys z Fc Nc nDL hyl hys
    obtain ⟨x0, x1, t0, t1, rfl, hx0, hx1⟩ := draws_two hyl hys
    obtain ⟨dl, hdl0⟩ : ∃ y, y = [Value.int (x0 : Int) t0, .int (x1 : Int) t1] := ⟨_, rfl⟩
    rw [← hdl0] at Nc
    refine k_storec (pre := [(DL, listOf dl.toArray z), (NL, listOf nl.toArray 0), (L + 8, o8), (L + 7, o7), (L + 6, o6), (L + 5, o5), (L + 4, o4), (L + 3, o3)]) (post := [(L + 1, o1')]) Fc Nc y2 ?d1 ?d2 (fun hd o2' y2' Fd Nd => ?_) rfl rfl rfl
    case d1 => (show OffL _ _); wtm_at "ku_off"
    case d2 => (show OffL _ _); wtm_at "ku_off"
    replace Nd : News h₀ L hd [(DL, listOf dl.toArray z), (NL, listOf nl.toArray 0), (L + 8, o8), (L + 7, o7), (L + 6, o6), (L + 5, o5), (L + 4, o4), (L + 3, o3), (L + 2, o2'), (L + 1, o1')] := fun p hp => Nd p hp
    repeat' wtm_at "ku"
    refine o_litem 0 rfl (k_and_isL Nd (by wtm_at "ku_mem")) (by rw [hdl0]; rfl) (by decide) ?_
    repeat' wtm_at "ku"
    rename_i he Fe Ne hke _ _ _ _
    obtain ⟨bb, hbb⟩ : ∃ b, b = decide (((x0 : Int) % 2) = 0) := ⟨_, rfl⟩
    rw [← hbb] at Fe
    refine o_range2 Fe Ne fun rK1 hK1r kK1r _ hrK1 FK1r NK1r => ?_
    repeat' wtm_at "ku"
    refine o_listrange hA.handled FK1r NK1r hrK1 (n := 28) (by decide) (by decide) (by decide) fun K1 u1 c1 hf kf Ff Nf I1 => ?_
    repeat' wtm_at "ku"
    refine o_range2 Ff Nf fun rK2 hK2r kK2r _ hrK2 FK2r NK2r => ?_
    repeat' wtm_at "ku"
    refine o_listrange hA.handled FK2r NK2r hrK2 (n := 65) (by decide) (by decide) (by decide) fun K2 u2 c2 hg kg Fg Ng I2 => ?_
    repeat' wtm_at "ku"
    have lI1 := I1.length
    have lI2 := I2.length
    rw [rangeKs_length] at lI1 lI2
    refine o_ladd Fg Ng (k_and_isL Ng (by wtm_at "ku_mem")) (k_and_isL Ng (by wtm_at "ku_mem")) (by (first | lia | omega)) fun KL hh Fh Nh => ?_
    have IK := I1.append I2
    rw [kinds_t] at IK
    obtain ⟨ks, hks0⟩ : ∃ y, y = u1 ++ u2 := ⟨_, rfl⟩
    rw [← hks0] at IK Nh
    have Nh' : News h₀ L hh [(KL, listOf ks.toArray 0), (DL, listOf dl.toArray z), (NL, listOf nl.toArray 0), (L + 8, o8), (L + 7, o7), (L + 6, o6), (L + 5, o5), (L + 4, o4), (L + 3, o3), (L + 2, o2'), (L + 1, o1')] := by wtm_at "ku_pick"
    refine k_storec (pre := [(KL, listOf ks.toArray 0), (DL, listOf dl.toArray z), (NL, listOf nl.toArray 0), (L + 8, o8), (L + 7, o7), (L + 6, o6), (L + 5, o5), (L + 4, o4)]) (post := [(L + 2, o2'), (L + 1, o1')]) Fh Nh' y3 ?k1 ?k2 (fun hk o3' y3' Fk Nk => ?_) rfl rfl rfl
    case k1 => (show OffL _ _); wtm_at "ku_off"
    case k2 => (show OffL _ _); wtm_at "ku_off"
    replace Nk : News h₀ L hk [(KL, listOf ks.toArray 0), (DL, listOf dl.toArray z), (NL, listOf nl.toArray 0), (L + 8, o8), (L + 7, o7), (L + 6, o6), (L + 5, o5), (L + 4, o4), (L + 3, o3'), (L + 2, o2'), (L + 1, o1')] := fun p hp => Nk p hp
    refine k_nextT fun hk3 => ?_
    refine k_consT (k_cut (fun fl s' => fl = .next ∧ (∃ (h' : Heap) (k' : Nat) (K3 : Addr) (us : List Value) (z3 : Nat) (oK : Obj), s' = S s₀ h' k' ∧ Fr h₀ L h' (look [(Str.ofString "bare", .bool bb), (Str.ofString "script", .ref R)]) ∧ News h₀ L h' [(K3, listOf us.toArray z3), (DL, listOf dl.toArray z), (NL, listOf nl.toArray 0), (L + 8, o8), (L + 7, o7), (L + 6, o6), (L + 5, o5), (L + 4, o4), (L + 3, oK), (L + 2, o2'), (L + 1, o1')] ∧ oK.data = .cell (some (.ref K3)) ∧ IntsAre us ((kindsT bb).map Int.ofNat))) ?cutA ?cutB)
    case cutA =>
      repeat' wtm_at "ku"
      refine Br.mk' (fun e => ?_) (fun e => ?_)
      · have ebb : bb = false := by simpa using e
        repeat' wtm_at "ku"
        refine o_range1 Fk Nk fun rK1 hK1r kK1r _ _ hrK1 FK1r NK1r => ?_
        repeat' wtm_at "ku"
        refine o_listrange hA.handled FK1r NK1r hrK1 (n := 9) (by decide) (by decide) (by decide) fun K1 v1 c1 ha1 ka1 Fa1 Na1 J1 => ?_
        repeat' wtm_at "ku"
        rename_i t11 _ t12 _ K2 ha2 Fa2 Na2 _
        have lJ1 := J1.length
        rw [rangeKs_length] at lJ1
        refine o_ladd (ws := [_, _]) Fa2 Na2 (k_and_isL Na2 (by wtm_at "ku_mem")) (k_and_isL Na2 (by wtm_at "ku_mem")) (by simp; (first | lia | omega)) fun K3 ha3 Fa3 Na3 => ?_
        have J3 := J1.append (IntsAre.cons 11 t11 (IntsAre.cons 12 t12 IntsAre.nil))
        repeat' wtm_at "ku"
        refine o_range2 Fa3 Na3 fun rK4 hK4r kK4r _ hrK4 FK4r NK4r => ?_
        repeat' wtm_at "ku"
        refine o_listrange hA.handled FK4r NK4r hrK4 (n := 18) (by decide) (by decide) (by decide) fun K4 v4 c4 ha4 ka4 Fa4 Na4 J4 => ?_
        repeat' wtm_at "ku"
        have lJ4 := J4.length
        rw [rangeKs_length] at lJ4
        refine o_ladd (vs := _ ++ [_, _]) Fa4 Na4 (k_and_isL Na4 (by wtm_at "ku_mem")) (k_and_isL Na4 (by wtm_at "ku_mem")) (by rw [List.length_append]; simp; (first | lia | omega)) fun K5 ha5 Fa5 Na5 => ?_
        have J5 := J3.append J4
        repeat' wtm_at "ku"
        rename_i t61 _ K6 ha6 Fa6 Na6 _
        refine o_ladd (vs := (_ ++ [_, _]) ++ _) (ws := [_]) Fa6 Na6 (k_and_isL Na6 (by wtm_at "ku_mem")) (k_and_isL Na6 (by wtm_at "ku_mem")) (by rw [List.length_append, List.length_append]; simp; (first | lia | omega)) fun K7 ha7 Fa7 Na7 => ?_
        have J7 := J5.append (IntsAre.cons 61 t61 IntsAre.nil)
        repeat' wtm_at "ku"
        refine o_range2 Fa7 Na7 fun rK8 hK8r kK8r _ hrK8 FK8r NK8r => ?_
        repeat' wtm_at "ku"
        refine o_listrange hA.handled FK8r NK8r hrK8 (n := 129) (by decide) (by decide) (by decide) fun K8 v8 c8 ha8 ka8 Fa8 Na8 J8 => ?_
        repeat' wtm_at "ku"
        have lJ8 := J8.length
        rw [rangeKs_length] at lJ8
        refine o_ladd (vs := ((_ ++ [_, _]) ++ _) ++ [_]) Fa8 Na8 (k_and_isL Na8 (by wtm_at "ku_mem")) (k_and_isL Na8 (by wtm_at "ku_mem")) (by rw [List.length_append, List.length_append, List.length_append]; simp; (first | lia | omega)) fun K9 ha9 Fa9 Na9 => ?_
        have J9 := J7.append J8
        rw [kinds_f] at J9
        obtain ⟨k9, hk90⟩ : ∃ y, y = v1 ++ [Value.int 11 t11, .int 12 t12] ++ v4 ++ [Value.int 61 t61] ++ v8 := ⟨_, rfl⟩
        rw [← hk90] at J9 Na9
        have Na9' : News h₀ L ha9 [(K9, listOf k9.toArray 0), (DL, listOf dl.toArray z), (NL, listOf nl.toArray 0), (L + 8, o8), (L + 7, o7), (L + 6, o6), (L + 5, o5), (L + 4, o4), (L + 3, o3'), (L + 2, o2'), (L + 1, o1')] := by wtm_at "ku_pick"
        refine k_storec (pre := [(K9, listOf k9.toArray 0), (DL, listOf dl.toArray z), (NL, listOf nl.toArray 0), (L + 8, o8), (L + 7, o7), (L + 6, o6), (L + 5, o5), (L + 4, o4)]) (post := [(L + 2, o2'), (L + 1, o1')]) Fa9 Na9' y3' ?m1 ?m2 (fun hm o3'' y3'' Fm Nm => ?_) rfl rfl rfl
        case m1 => (show OffL _ _); wtm_at "ku_off"
        case m2 => (show OffL _ _); wtm_at "ku_off"
        replace Nm : News h₀ L hm [(K9, listOf k9.toArray 0), (DL, listOf dl.toArray z), (NL, listOf nl.toArray 0), (L + 8, o8), (L + 7, o7), (L + 6, o6), (L + 5, o5), (L + 4, o4), (L + 3, o3''), (L + 2, o2'), (L + 1, o1')] := fun p hp => Nm p hp
        refine k_nextT fun hk3' => ?_
        repeat' wtm_at "ku"
        exact ⟨rfl, _, _, K9, k9, 0, o3'', rfl, Fm, Nm, y3'', by rw [ebb]; exact J9⟩
      · have ebb : bb = true := by simpa using e
        repeat' wtm_at "ku"
        exact ⟨rfl, hk, _, KL, ks, 0, o3', rfl, Fk, Nk, y3', by rw [ebb]; exact IK⟩
    case cutB =>
      rintro fl s' ⟨rfl, hl3, kl3, K3, us, z3, oK, rfl, Fl, Nl, yK, IK3⟩
      refine k_nextT fun hk4 => ?_
      repeat' wtm_at "ku"
      rename_i ta1 _ ta2 _ ta3 _ ta4 _ A5 h5 F5 N5 _ _ _
      refine o_litem 1 rfl (k_and_isL N5 (by wtm_at "ku_mem")) (by rw [hdl0]; rfl) (by decide) ?_
      repeat' wtm_at "ku"
      obtain ⟨ap, tap, hap, hap2⟩ := pick4 (n := x1 / 4 % 4) (Nat.mod_lt _ (by decide)) ta1 ta2 ta3 ta4
      refine o_litem (vs := [_, _, _, _]) (x1 / 4 % 4) (by (first | lia | omega)) (k_and_isL N5 (by wtm_at "ku_mem")) hap (by (first | lia | omega)) ?_
      have N5' : News h₀ L h5 [(K3, listOf us.toArray z3), (DL, listOf dl.toArray z), (NL, listOf nl.toArray 0), (L + 8, o8), (L + 7, o7), (L + 6, o6), (L + 5, o5), (L + 4, o4), (L + 3, oK), (L + 2, o2'), (L + 1, o1')] := by wtm_at "ku_pick"
      refine k_storec (pre := [(K3, listOf us.toArray z3), (DL, listOf dl.toArray z), (NL, listOf nl.toArray 0), (L + 8, o8), (L + 7, o7), (L + 6, o6), (L + 5, o5)]) (post := [(L + 3, oK), (L + 2, o2'), (L + 1, o1')]) F5 N5' y4 ?n1 ?n2 (fun hn o4' y4' Fn Nn => ?_) rfl rfl rfl
      case n1 => (show OffL _ _); wtm_at "ku_off"
      case n2 => (show OffL _ _); wtm_at "ku_off"
      replace Nn : News h₀ L hn [(K3, listOf us.toArray z3), (DL, listOf dl.toArray z), (NL, listOf nl.toArray 0), (L + 8, o8), (L + 7, o7), (L + 6, o6), (L + 5, o5), (L + 4, o4'), (L + 3, oK), (L + 2, o2'), (L + 1, o1')] := fun p hp => Nn p hp
      refine k_nextT fun hk5 => ?_
      repeat' wtm_at "ku"
      exact hQ hn _ x0 x1 t0 t1 tap bb ap K3 DL NL us dl nl nn z3 z _ _ _ _ _ _ _ _ Fn Nn y8 y7 y6 y5 y4' yK y2' y1' IK3 hdl0 hx0 hx1 hnl hnlen hap2 (by (first | lia | omega))
local macro_rules | `(tactic| wtm_at "ku1") => `(tactic| ((fail_if_success (with_reducible show wpAny _ _ (storeName _ _ _) _ _ _)); wtm_at "ku"))
theorem o_modE {a b : Int} {t u : Tok} {Q : Value → Shared → Prop} (hb : 0 < b) (hq : Q (.int (a % b) k) (S s₀ h (k + 1))) : wpAny (model prog w) A (binaryOp .Mod (.int a t) (.int b u)) Q E (S s₀ h k) := by
  refine mod_int' (s := S s₀ h k) (by (first | lia | omega)) ?_
  rw [Int.fmod_eq_emod_of_nonneg a (by (first | lia | omega))]; exact hq
theorem k_intE {i : Int} {kk : Nat} {pos : Pos} {env : Env} {Q : Value → Shared → Prop} (hq : Q (.int i k) (S s₀ h (k + 1))) : wpAny (model prog w) A (eval (.Constant (.int i) kk pos) env) Q E (S s₀ h k) := wpAny_Constant_int (s := S s₀ h k) hq
theorem o_addE {a b : Int} {t u : Tok} {Q : Value → Shared → Prop} (hq : Q (.int (a + b) k) (S s₀ h (k + 1))) : wpAny (model prog w) A (binaryOp .Add (.int a t) (.int b u)) Q E (S s₀ h k) := P.add_int (s := S s₀ h k) hq
theorem o_subE {a b : Int} {t u : Tok} {Q : Value → Shared → Prop} (hq : Q (.int (a - b) k) (S s₀ h (k + 1))) : wpAny (model prog w) A (binaryOp .Sub (.int a t) (.int b u)) Q E (S s₀ h k) := P.sub_int (s := S s₀ h k) hq
theorem o_divE {a b : Int} {t u : Tok} {Q : Value → Shared → Prop} (hb : 0 < b) (hs : b.natAbs < 1073741824) (hq : Q (.int (a / b) k) (S s₀ h (k + 1))) : wpAny (model prog w) A (binaryOp .FloorDiv (.int a t) (.int b u)) Q E (S s₀ h k) := by
  refine floordiv_int (s := S s₀ h k) (by (first | lia | omega)) ?_ (.inl (PyProof.noPylong_small hs))
  rw [Int.fdiv_eq_ediv_of_nonneg a (by (first | lia | omega))]; exact hq
/-- a slice of a list; the parts change no heap -/
theorem o_lslice3 {D L : Addr} {vs : List Value} {env : Env} {h₀ : Heap} {m : Str → Option Value} {news : List (Addr × Obj)} {lo hi : Option PySem.Expr} {p : Pos} {value : PySem.Expr} {Q : Value → Shared → Prop} (F : Fr h₀ L h m) (N : News h₀ L h news) (hl : h.IsList D vs.toArray) (hsz : vs.length ≤ 10000) (ys : List Value)
    (hq : wpAny (model prog w) A (evalPart lo env) (fun lv s₁ => wpAny (model prog w) A (evalPart hi env) (fun uv s₂ => ∃ k' lo' hi', s₂ = S s₀ h k' ∧ IsPart lv lo' ∧ IsPart uv hi' ∧ slicePick vs.toArray lo' hi' none = List.toArray ys ∧
      (∀ R h'', Fr h₀ L h'' m → News h₀ L h'' ((R, listOf ys.toArray 0) :: news) → Q (.ref R) (S s₀ h'' k'))) E s₁) E (S s₀ h k))
    (hs : ∀ i, subscripted (.Slice lo hi none p) false (.ref D) (.ref i) = operate [.ref i, .ref D] (getItem (.ref D) (.ref i)) := by intro _; with_unfolding_all rfl) :
    wpAny (model prog w) A (eval (.Slice lo hi none p) env) (fun i s₂ => wpAny (model prog w) A (subscriptTail value (.Slice lo hi none p) (.ref D) i) Q E s₂) E (S s₀ h k) := by
  refine wpAny_Slice (wpAny_mono hq (fun lv s₁ x => wpAny_mono x (fun uv s₂ x => evalPart_none_step ?_) fun _ _ x => x) fun _ _ x => x)
  obtain ⟨k', lo', hi', rfl, p1, p2, e, hd⟩ := x
  refine kba_turn (value' := .Name (Str.ofString "x") default) (fun _ => rfl) ?_
  refine slice_list (s := S s₀ h k') F N hl p1 p2 (fun h'' F' N' => ?_) (hs _) (fun _ => rfl) (by unfold sizeLine; simp; (first | lia | omega))
  rw [e] at N'
  exact hd _ h'' F' N'
local macro_rules | `(tactic| wtm_at "ku") => `(tactic| first | (with_reducible refine k_intE ?_) | (with_reducible refine o_subE ?_) | (with_reducible refine o_addE ?_) | (with_reducible refine o_divE ?hl ?hl2 ?_; (case hl => wtm_at "ku_side"); (case hl2 => wtm_at "ku_side")) | (with_reducible refine o_modE ?hl ?_; (case hl => wtm_at "ku_side")))
theorem o_lpick2 {value slice : PySem.Expr} {D : Addr} {x y : T} {tA tB : Nat} {i : Int} {u : Tok} {Q : Value → Shared → Prop} (n : Nat) (hl : h.IsList D [Value.str (mkS x) tA, .str (mkS y) tB].toArray) (hi : i = (n : Int)) (hn : n < 2)
    (hq : ∀ (e : T) (t : Nat), (e = x ∨ e = y) → (t = tA ∨ t = tB) → Q (.str (mkS e) t) (S s₀ h k))
    (hs : subscripted slice false (.ref D) (.int i u) = operate [.ref D, .int i u] (getItem (.ref D) (.int i u)) := by with_unfolding_all rfl) :
    wpAny (model prog w) A (subscriptTail value slice (.ref D) (.int i u)) Q E (S s₀ h k) := by
  obtain ⟨e, t, h1, h2, h3⟩ := pick2 hn x y tA tB
  exact o_litem n hi hl h1 (by (first | lia | omega)) (hq e t h2 h3) hs
theorem o_lpick3 {value slice : PySem.Expr} {D : Addr} {t1 t2 t3 : Tok} {i : Int} {u : Tok} {Q : Value → Shared → Prop} (n : Nat) (hl : h.IsList D [Value.str (mkS [13]) t1, .str (mkS [10]) t2, .str (mkS [13, 10]) t3].toArray) (hi : i = (n : Int)) (hn : n < 3)
    (hq : ∀ (e : T) (t : Tok), IsMark e → Q (.str (mkS e) t) (S s₀ h k))
    (hs : subscripted slice false (.ref D) (.int i u) = operate [.ref D, .int i u] (getItem (.ref D) (.int i u)) := by with_unfolding_all rfl) :
    wpAny (model prog w) A (subscriptTail value slice (.ref D) (.int i u)) Q E (S s₀ h k) := by
  obtain ⟨e, t, h1, h2⟩ := pick3 hn t1 t2 t3
  exact o_litem n hi hl h1 (by (first | lia | omega)) (hq e t h2) hs
theorem flat_signs (l : T) : joinT [] (l.map fun c => [c]) = l := by
  rw [joinT_nil]; induction l with
  | nil => rfl
  | cons a r ih => rw [List.map_cons, List.flatten_cons, ih]; rfl
theorem kinds_lt {bb : Bool} {n : Nat} (h : n < kindsN bb) : (kindsT bb).getD n 0 < 256 := by
  rw [List.getD_eq_getElem?_getD, List.getElem?_eq_getElem (by rw [kinds_len]; exact h)]
  exact (kinds_ok bb _ (List.getElem_mem _)).1
theorem idx_cast {x0 ap i N : Nat} : ((x0 : Int) / 2 + (ap : Int) * ((i : Int) * 1)) % (N : Int) = (((x0 / 2 + ap * i) % N : Nat) : Int) := by
  rw [Int.mul_one]; push_cast; rfl
/-- the deck, as it lies -/
noncomputable def DeckAt (dd : List (Str × Tok)) (deck : T) (k : Nat) : Prop := dd.map (·.1) = deck.map (fun c => mkS [c]) ∧ ∀ p ∈ dd, @Ne Nat p.2 0 ∧ @LT.lt Nat _ p.2 k
theorem DeckAt.mono {dd : List (Str × Tok)} {deck : T} {k k' : Nat} (h : DeckAt dd deck k) (hk : k ≤ k') : DeckAt dd deck k' := ⟨h.1, fun p hp => ⟨(h.2 p hp).1, Nat.lt_of_lt_of_le (h.2 p hp).2 hk⟩⟩
theorem DeckAt.blank {dd : List (Str × Tok)} {deck : T} {k spot b tb : Nat} (h : DeckAt dd deck k) (h0 : tb ≠ 0) (h1 : tb < k) : DeckAt (dd.take spot ++ [(mkS [b], tb)] ++ dd.drop (spot + 1)) (blankT deck spot b) k := by
  refine ⟨?_, fun p hp => ?_⟩
  · unfold blankT
    simp only [List.map_append, List.map_take, List.map_drop, h.1, List.map_cons, List.map_nil]
  · rcases List.mem_append.mp hp with hp | hp
    · rcases List.mem_append.mp hp with hp | hp
      · exact h.2 p (List.mem_of_mem_take hp)
      · rw [List.mem_singleton.mp hp]; exact ⟨h0, h1⟩
    · exact h.2 p (List.mem_of_mem_drop hp)
theorem strs_blank (dd : List (Str × Tok)) (n : Nat) (x : Str) (t : Tok) : (strValues dd).take n ++ [Value.str x t] ++ (strValues dd).drop (n + 1) = strValues (dd.take n ++ [(x, t)] ++ dd.drop (n + 1)) := by
  simp [strValues, List.map_take, List.map_drop]
theorem law_A2 {h₀ : Heap} {L f : Addr} {cdv : Value} {R : Addr} {o1 o2 o3 o4 o5 o6 o7 o8 : Obj} {Q : Flow → Shared → Prop} {n : Nat} {x0 x1 : Nat} {t0 t1 tap : Tok} {bb : Bool} {ap : Nat} {K3 DL NL : Addr} {us dl nl : List Value} {z3 z : Nat} (G : Glb d mg mb h₀) (hA : AOk A n)
    (F : Fr h₀ L h (look [(Str.ofString "bare", .bool bb), (Str.ofString "script", .ref R)]))
    (N : News h₀ L h [(K3, listOf us.toArray z3), (DL, listOf dl.toArray z), (NL, listOf nl.toArray 0), (L + 8, o8), (L + 7, o7), (L + 6, o6), (L + 5, o5), (L + 4, o4), (L + 3, o3), (L + 2, o2), (L + 1, o1)])
    (y8 : o8.data = .cell none) (y7 : o7.data = .cell none) (y6 : o6.data = .cell none) (y5 : o5.data = .cell none) (y4 : o4.data = .cell (some (.int (ap : Int) tap))) (y3 : o3.data = .cell (some (.ref K3))) (y2 : o2.data = .cell (some (.ref DL))) (y1 : o1.data = .cell (some (.ref NL)))
    (IK3 : IntsAre us ((kindsT bb).map Int.ofNat)) (hdl0 : dl = [.int (x0 : Int) t0, .int (x1 : Int) t1]) (hx0 : x0 < 1000000) (hx1 : x1 < 1000000) (hap2 : ap = 1 ∨ ap = 2 ∨ ap = 4 ∨ ap = 5) (hk0 : 0 < k)
    (hQ : ∀ (h' : Heap) (k' : Nat) (vals' : List (Str × Value)) (DD TL : Addr) (dd : List (Str × Tok)) (spot b z6 : Nat) (tm te tt th : Tok) (mark eol : T) (shut : Bool) (o5 o6 o7 : Obj), Fr h₀ L h' (look vals') → look vals' (Str.ofString "bare") = some (.bool bb) → look vals' (Str.ofString "deck") = some (.ref DD) → look vals' (Str.ofString "shut") = some (.bool shut) →
      News h₀ L h' [(TL, tupOf [.str (mkS mark) tm, .str (mkS eol) te]), (DD, listOf (strValues dd).toArray z6), (NL, listOf nl.toArray 0), (L + 8, o8), (L + 7, o7), (L + 6, o6), (L + 5, o5), (L + 4, o4), (L + 3, o3), (L + 2, o2), (L + 1, o1)] →
      o7.data = .cell (some (.int 1 tt)) → o6.data = .cell (some (.str (mkS (deckT bb (x0 / 2) ap spot b)) th)) → o5.data = .cell (some (.ref TL)) →
      DeckAt dd (deckT bb (x0 / 2) ap spot b) k' → IsMark mark → (eol = [10] ∨ eol = [13, 10]) → @Ne Nat te 0 → @LT.lt Nat _ te k' → spot < 11 → (b = 32 ∨ b = 9) → Q .next (S s₀ h' k')) :
    wpAny (model prog w) A (execs (((fbody 34).drop 6).take 6) (envX (fname 34) (fscope 34) L f cdv (cl8 L))) Q NoE (S s₀ h k) := by
  refine' with_body (i := 34) (fun b sc => wpAny (model prog w) A (execs ((b.drop 6).take 6) (envX (fname 34) sc L f cdv (cl8 L))) Q NoE (S s₀ h k)) ?hb ?hs ?_
  case hb => (conv => lhs; whnf); (try exact rfl)
  case hs => (conv => lhs; whnf); (try exact rfl)
  simp only [List.drop_succ_cons, List.drop_zero, List.take_succ_cons, List.take_zero]
  have hap5 : ap ≤ 5 := by (first | lia | omega)

  obtain ⟨hIl, hIat⟩ := ints_nat IK3
  rw [kinds_len] at hIl hIat
  have hkn : 93 ≤ kindsN bb ∧ kindsN bb ≤ 159 := by cases bb <;> decide
  refine k_consT (k_compKA F N 12 (fun i v => i < 12 ∧ ∃ t, v = .int ((i : Int) * 1) t) (FmSign (drawT bb (x0 / 2) ap)) (fun i y k k' hle q => ?hmono6) (by decide) rfl rfl ?hcell6 rfl ?hnames6 rfl rfl rfl ?hs6 ?hit6 ?helt6 ?done6)
  case hmono6 => obtain ⟨u, e, q1, q2⟩ := q; exact ⟨u, e, q1, Nat.lt_of_lt_of_le q2 hle⟩
  case hcell6 => decide
  case hnames6 => decide
  case hs6 => intro _; rfl
  case hit6 =>
    repeat' wtm_at "ku"
    refine o_range1 F N fun r h9 k9 _ _ hr F9 N9 => ?_
    exact wpAny_mono (wk_range hA.handled hr (by decide) (by decide) F9 N9) (fun _ _ x => x.lt) fun _ _ x => x
  case helt6 =>
    rintro s₃ C i v h₃ k₃ m₃ E' ⟨hi12, t, rfl⟩ hn hm F3 N3 hk3
    repeat' wtm_at "ku"
    refine o_litem 0 rfl (k_and_isL N3 (by wtm_at "ku_mem")) (by rw [hdl0]; rfl) (by decide) ?_
    repeat' wtm_at "ku"
    refine o_lenl (k_and_isL N3 (by wtm_at "ku_mem")) (by (first | lia | omega)) fun _ kq => ?_
    repeat' wtm_at "ku"
    have hidx : (x0 / 2 + ap * i) % kindsN bb < kindsN bb := Nat.mod_lt _ (by (first | lia | omega))
    obtain ⟨tv, hv⟩ := hIat _ hidx
    refine o_litem ((x0 / 2 + ap * i) % kindsN bb) (by rw [hIl]; exact idx_cast) (k_and_isL N3 (by wtm_at "ku_mem")) hv (by (first | lia | omega)) ?_
    repeat' wtm_at "ku"
    have hlt := kinds_lt hidx
    refine o_chrE (by (first | lia | omega)) ⟨h₃, _, rfl, Ext.refl _, kq + 1, by rw [draw_at hi12], Nat.succ_ne_zero _, Nat.lt_succ_self _⟩
  case done6 =>
    rintro DD hp kp ys6 z6 Fp Np nDD hkp hyl6 hys6
    obtain ⟨lc, rfl, elc, tlc⟩ := deck_strs (drawT bb (x0 / 2) ap) ys6 kp (by rw [hyl6]; simp [drawT]) hys6
    have hdk : DeckAt lc (drawT bb (x0 / 2) ap) kp := ⟨elc, tlc⟩
    have lcl : lc.length = 12 := by simpa [strValues] using hyl6
    refine k_nextT fun hk6 => ?_
    refine k_consT (k_cut (fun fl s' => fl = .next ∧ ∃ (h' : Heap) (k' : Nat) (vals' : List (Str × Value)) (DD' : Addr) (dd : List (Str × Tok)) (z6' spot b : Nat), s' = S s₀ h' k' ∧ Fr h₀ L h' (look vals') ∧ look vals' (Str.ofString "bare") = some (.bool bb) ∧ look vals' (Str.ofString "deck") = some (.ref DD') ∧ News h₀ L h' [(DD', listOf (strValues dd).toArray z6'), (DL, listOf dl.toArray z), (NL, listOf nl.toArray 0), (L + 8, o8), (L + 7, o7), (L + 6, o6), (L + 5, o5), (L + 4, o4), (L + 3, o3), (L + 2, o2), (L + 1, o1)] ∧ DeckAt dd (deckT bb (x0 / 2) ap spot b) k' ∧ spot < 11 ∧ (b = 32 ∨ b = 9) ∧ 0 < k') ?cut7 ?next7)
    case cut7 =>
      repeat' wtm_at "ku"
      refine Br.mk' (fun e => ?_) (fun e => ?_)
      · subst e
        repeat' wtm_at "ku"
        refine o_litem 1 rfl (k_and_isL Np (by wtm_at "ku_mem")) (by rw [hdl0]; rfl) (by decide) ?_
        repeat' wtm_at "ku"
        rename_i hs7 Fs7 Ns7 hks7
        have hsp : x1 / 16 % 11 < 11 := Nat.mod_lt _ (by decide)
        have hspI : ((x1 : Int) / 16 % 11) = ((x1 / 16 % 11 : Nat) : Int) := by (first | lia | omega)
        refine o_lslice3 (D := DD) (vs := strValues lc) Fs7 Ns7 (k_and_isL Ns7 (by wtm_at "ku_mem")) (by rw [hyl6]; decide) ((strValues lc).take (x1 / 16 % 11)) ?_
        repeat' wtm_at "ku"
        refine ⟨_, _, _, rfl, .none, .int _ _, by rw [hspI]; exact pick_upto, fun Q1 hq1 Fq1 Nq1 => ?_⟩
        repeat' wtm_at "ku"
        rename_i B1 hb1 Fb1 Nb1 _
        refine o_litem 1 rfl (k_and_isL Nb1 (by wtm_at "ku_mem")) (by rw [hdl0]; rfl) (by decide) ?_
        repeat' wtm_at "ku"
        refine o_lpick2 (x1 / 176 % 2) (k_and_isL Nb1 (by wtm_at "ku_mem")) (by (first | lia | omega)) (Nat.mod_lt _ (by decide)) fun e7 tb7 he7 ht7 => ?_
        obtain ⟨b7, rfl, hb7c⟩ : ∃ b, e7 = [b] ∧ (b = 32 ∨ b = 9) := by
          rcases he7 with rfl | rfl
          · exact ⟨32, rfl, .inl rfl⟩
          · exact ⟨9, rfl, .inr rfl⟩
        repeat' wtm_at "ku"
        rename_i B2 hb2 Fb2 Nb2 _
        refine o_ladd (ws := [_]) Fb2 Nb2 (k_and_isL Nb2 (by wtm_at "ku_mem")) (k_and_isL Nb2 (by wtm_at "ku_mem")) (by rw [List.length_take]; simp; (first | lia | omega)) fun B3 hb3 Fb3 Nb3 => ?_
        repeat' wtm_at "ku"
        refine o_lslice3 (D := DD) (vs := strValues lc) Fb3 Nb3 (k_and_isL Nb3 (by wtm_at "ku_mem")) (by rw [hyl6]; decide) ((strValues lc).drop (x1 / 16 % 11 + 1)) ?_
        repeat' wtm_at "ku"
        refine ⟨_, _, _, rfl, .int _ _, .none, by rw [hspI]; exact pick_from (x := x1 / 16 % 11 + 1), fun B4 hb4 Fb4 Nb4 => ?_⟩
        repeat' wtm_at "ku"
        refine o_ladd (vs := _ ++ [_]) Fb4 Nb4 (k_and_isL Nb4 (by wtm_at "ku_mem")) (k_and_isL Nb4 (by wtm_at "ku_mem")) (by rw [List.length_append, List.length_take, List.length_drop]; simp; (first | lia | omega)) fun B5 hb5 Fb5 Nb5 => ?_
        rw [strs_blank lc] at Nb5
        repeat' wtm_at "ku"
        refine ⟨rfl, _, _, _, B5, _, 0, x1 / 16 % 11, b7, rfl, by with_reducible assumption, by wtm_at "lk", by wtm_at "lk", by wtm_at "ku_pick", DeckAt.blank (hdk.mono (by (first | lia | omega))) ?_ ?_, hsp, hb7c, by (first | lia | omega)⟩
        · rcases ht7 with rfl | rfl <;> (first | lia | omega)
        · rcases ht7 with rfl | rfl <;> (first | lia | omega)
      · subst e
        repeat' wtm_at "ku"
        refine ⟨rfl, hp, _, _, DD, lc, z6, 0, 32, rfl, Fp, by wtm_at "lk", by wtm_at "lk", by wtm_at "ku_pick", hdk, by decide, .inl rfl, by (first | lia | omega)⟩
    case next7 =>
      rintro fl s' ⟨rfl, h7, k7, vals7, DD', dd, z6', spot, b, rfl, F7, hl7b, hl7d, N7, hdk7, hspot, hb7, hk70⟩
      refine k_nextT fun hk7 => ?_
      repeat' wtm_at "ku"
      rename_i E1 he1 Fe1 Ne1 _
      refine o_litem 1 rfl (k_and_isL Ne1 (by wtm_at "ku_mem")) (by rw [hdl0]; rfl) (by decide) ?_
      repeat' wtm_at "ku"
      refine o_lpick3 (x1 % 3) (k_and_isL Ne1 (by wtm_at "ku_mem")) (by (first | lia | omega)) (Nat.mod_lt _ (by decide)) fun mark tm hmark => ?_
      repeat' wtm_at "ku"
      rename_i E2 he2 Fe2 Ne2 _
      refine o_litem 1 rfl (k_and_isL Ne2 (by wtm_at "ku_mem")) (by rw [hdl0]; rfl) (by decide) ?_
      repeat' wtm_at "ku"
      refine o_lpick2 (x1 % 2) (k_and_isL Ne2 (by wtm_at "ku_mem")) (by (first | lia | omega)) (Nat.mod_lt _ (by decide)) fun eol te heol hte => ?_
      repeat' wtm_at "ku1"
      rename_i TL hT FT NT _
      have hte0 : te ≠ 0 := by rcases hte with rfl | rfl <;> (first | lia | omega)
      have NT' : News h₀ L hT [(TL, tupOf [.str (mkS mark) tm, .str (mkS eol) te]), (DD', listOf (strValues dd).toArray z6'), (DL, listOf dl.toArray z), (NL, listOf nl.toArray 0), (L + 8, o8), (L + 7, o7), (L + 6, o6), (L + 5, o5), (L + 4, o4), (L + 3, o3), (L + 2, o2), (L + 1, o1)] := by wtm_at "ku_pick"
      refine k_storec (pre := [(TL, tupOf [.str (mkS mark) tm, .str (mkS eol) te]), (DD', listOf (strValues dd).toArray z6'), (DL, listOf dl.toArray z), (NL, listOf nl.toArray 0), (L + 8, o8), (L + 7, o7), (L + 6, o6)]) (post := [(L + 4, o4), (L + 3, o3), (L + 2, o2), (L + 1, o1)]) FT NT' y5 ?q1 ?q2 (fun hq o5' y5' Fq Nq => ?_) rfl rfl rfl
      case q1 => (show OffL _ _); wtm_at "ku_off"
      case q2 => (show OffL _ _); wtm_at "ku_off"
      replace Nq : News h₀ L hq [(TL, tupOf [.str (mkS mark) tm, .str (mkS eol) te]), (DD', listOf (strValues dd).toArray z6'), (DL, listOf dl.toArray z), (NL, listOf nl.toArray 0), (L + 8, o8), (L + 7, o7), (L + 6, o6), (L + 5, o5'), (L + 4, o4), (L + 3, o3), (L + 2, o2), (L + 1, o1)] := fun p hp => Nq p hp
      refine k_nextT fun hk8 => ?_
      repeat' wtm_at "ku"
      refine o_litem 1 rfl (k_and_isL Nq (by wtm_at "ku_mem")) (by rw [hdl0]; rfl) (by decide) ?_
      repeat' wtm_at "ku"
      rename_i hs9 Fs9 Ns9 hks9
      refine o_join (ls := dd) (ys := (deckT bb (x0 / 2) ap spot b).map fun c => [c]) (k_and_isL Ns9 (by wtm_at "ku_mem")) (by rw [List.map_map]; exact hdk7.1) 1 (fun y hy => by obtain ⟨c, _, rfl⟩ := List.mem_map.mp hy; exact Nat.le_refl _) ?_ fun tj kj => ?_
      · rw [List.length_map, (deck_ok (bare := bb) (s := x0 / 2) hap2 hspot hb7).1.len]; decide
      rw [flat_signs]
      refine k_storec (pre := [(TL, tupOf [.str (mkS mark) tm, .str (mkS eol) te]), (DD', listOf (strValues dd).toArray z6'), (DL, listOf dl.toArray z), (NL, listOf nl.toArray 0), (L + 8, o8), (L + 7, o7)]) (post := [(L + 5, o5'), (L + 4, o4), (L + 3, o3), (L + 2, o2), (L + 1, o1)]) Fs9 Ns9 y6 ?v1 ?v2 (fun hv o6' y6' Fv Nv => ?_) rfl rfl rfl
      case v1 => (show OffL _ _); wtm_at "ku_off"
      case v2 => (show OffL _ _); wtm_at "ku_off"
      replace Nv : News h₀ L hv [(TL, tupOf [.str (mkS mark) tm, .str (mkS eol) te]), (DD', listOf (strValues dd).toArray z6'), (DL, listOf dl.toArray z), (NL, listOf nl.toArray 0), (L + 8, o8), (L + 7, o7), (L + 6, o6'), (L + 5, o5'), (L + 4, o4), (L + 3, o3), (L + 2, o2), (L + 1, o1)] := fun p hp => Nv p hp
      refine k_nextT fun hk10 => ?_
      repeat' wtm_at "ku1"
      refine k_storec (pre := [(TL, tupOf [.str (mkS mark) tm, .str (mkS eol) te]), (DD', listOf (strValues dd).toArray z6'), (DL, listOf dl.toArray z), (NL, listOf nl.toArray 0), (L + 8, o8)]) (post := [(L + 6, o6'), (L + 5, o5'), (L + 4, o4), (L + 3, o3), (L + 2, o2), (L + 1, o1)]) Fv Nv y7 ?x1 ?x2 (fun hx o7' y7' Fx Nx => ?_) rfl rfl rfl
      case x1 => (show OffL _ _); wtm_at "ku_off"
      case x2 => (show OffL _ _); wtm_at "ku_off"
      replace Nx : News h₀ L hx [(TL, tupOf [.str (mkS mark) tm, .str (mkS eol) te]), (DD', listOf (strValues dd).toArray z6'), (DL, listOf dl.toArray z), (NL, listOf nl.toArray 0), (L + 8, o8), (L + 7, o7'), (L + 6, o6'), (L + 5, o5'), (L + 4, o4), (L + 3, o3), (L + 2, o2), (L + 1, o1)] := fun p hp => Nx p hp
      refine k_nextT fun hk11 => ?_
      repeat' wtm_at "ku"
      have hfin : ∀ kk : Nat, kj ≤ kk → te < kk ∧ k7 ≤ kk := fun kk hkk => by rcases hte with rfl | rfl <;> (first | lia | omega)
      obtain ⟨hf1, hf2⟩ := hfin _ hk11
      exact hQ hx _ _ DD' TL dd spot b z6' tm te _ tj mark eol _ o5' o6' o7' Fx (look_tl (by decide) hl7b) (look_tl (by decide) hl7d) look_hd (by wtm_at "ku_pick") y7' y6' y5' (hdk7.mono hf2) hmark heol hte0 hf1 hspot hb7
local macro_rules | `(tactic| wtm_at "ku2") => `(tactic| ((fail_if_success (with_reducible show wpAny _ _ (execs (_ :: _) _) _ _ _)); (fail_if_success (with_reducible show wpAny _ _ (storeName _ (Str.ofString "held") _) _ _ _)); (fail_if_success (with_reducible show wpAny _ _ (storeName _ (Str.ofString "turned") _) _ _ _)); wtm_at "ku"))
theorem i_cut {tr : Sem Value} {Q : Value → Shared → Prop} (i : Int) (h1 : wpAny (model prog w) A tr (fun v s' => ∃ t k', v = .int i t ∧ s' = S s₀ h k') E (S s₀ h k)) (h2 : ∀ t k', Q (.int i t) (S s₀ h k')) : wpAny (model prog w) A tr Q E (S s₀ h k) :=
  k_cut _ h1 fun v s' x => by obtain ⟨t, k', rfl, rfl⟩ := x; exact h2 t k'
theorem o_lpickw {value slice : PySem.Expr} {D : Addr} {t1 t2 t3 : Tok} {i : Int} {u : Tok} {Q : Value → Shared → Prop} (n : Nat) (hl : h.IsList D [Value.int 6 t1, .int 4 t2, .int 3 t3].toArray) (hi : i = (n : Int)) (hn : n < 3)
    (hq : ∀ (e : Nat) (t : Tok), (e = 6 ∨ e = 4 ∨ e = 3) → Q (.int (e : Int) t) (S s₀ h k))
    (hs : subscripted slice false (.ref D) (.int i u) = operate [.ref D, .int i u] (getItem (.ref D) (.int i u)) := by with_unfolding_all rfl) :
    wpAny (model prog w) A (subscriptTail value slice (.ref D) (.int i u)) Q E (S s₀ h k) := by
  match n, hn with
  | 0, _ => exact o_litem 0 hi hl rfl (by decide) (hq 6 _ (.inl rfl)) hs
  | 1, _ => exact o_litem 1 hi hl rfl (by decide) (hq 4 _ (.inr (.inl rfl))) hs
  | 2, _ => exact o_litem 2 hi hl rfl (by decide) (hq 3 _ (.inr (.inr rfl))) hs
theorem o_lpickl {value slice : PySem.Expr} {D : Addr} {t1 t2 t3 : Tok} {i : Int} {u : Tok} {Q : Value → Shared → Prop} (n : Nat) (hl : h.IsList D [Value.str (mkS [46]) t1, .str (mkS [32]) t2, .str (mkS [9]) t3].toArray) (hi : i = (n : Int)) (hn : n < 3)
    (hq : ∀ (e : Nat) (t : Tok), (e = 46 ∨ e = 32 ∨ e = 9) → Q (.str (mkS [e]) t) (S s₀ h k))
    (hs : subscripted slice false (.ref D) (.int i u) = operate [.ref D, .int i u] (getItem (.ref D) (.int i u)) := by with_unfolding_all rfl) :
    wpAny (model prog w) A (subscriptTail value slice (.ref D) (.int i u)) Q E (S s₀ h k) := by
  match n, hn with
  | 0, _ => exact o_litem 0 hi hl rfl (by decide) (hq 46 _ (.inl rfl)) hs
  | 1, _ => exact o_litem 1 hi hl rfl (by decide) (hq 32 _ (.inr (.inl rfl))) hs
  | 2, _ => exact o_litem 2 hi hl rfl (by decide) (hq 9 _ (.inr (.inr rfl))) hs
theorem ints_of {f : Nat → Int} : ∀ (ys : List Value) (n : Nat), ys.length = n → (∀ (j : Nat) (v : Value), ys[j]? = some v → ∃ u, v = .int (f j) u) → IntsAre ys ((List.range n).map f)
  | [], n, hl, _ => by subst hl; exact IntsAre.nil
  | y :: ys, n, hl, h => by
    subst hl
    obtain ⟨u, rfl⟩ := h 0 y rfl
    have ih := ints_of (f := fun j => f (j + 1)) ys ys.length rfl fun j v hv => h (j + 1) v (by simpa using hv)
    rw [List.length_cons, List.range_succ_eq_map, List.map_cons, List.map_map]
    exact IntsAre.cons _ _ ih
noncomputable def FmNum (_i : Nat) (z : Value) (_k : Nat) : Prop := ∃ (x : Nat) (t : Tok), z = .int (x : Int) t ∧ x < 270
/-- the names that the deeds read -/
structure LawV (v : List (Str × Value)) (bb : Bool) (DD : Addr) (shut : Bool) : Prop where
  bare : look v (Str.ofString "bare") = some (.bool bb)
  deck : look v (Str.ofString "deck") = some (.ref DD)
  shut : look v (Str.ofString "shut") = some (.bool shut)
theorem LawV.more {v : List (Str × Value)} {bb : Bool} {DD : Addr} {shut : Bool} {x : Str} {y : Value} (V : LawV v bb DD shut) (h1 : Str.ofString "bare" ≠ x) (h2 : Str.ofString "deck" ≠ x) (h3 : Str.ofString "shut" ≠ x) : LawV ((x, y) :: v) bb DD shut := ⟨look_tl h1 V.bare, look_tl h2 V.deck, look_tl h3 V.shut⟩
theorem nums_at {ys : List Value} {ta tb : Tok} {i : Nat} {v : Value} {kk : Nat} (h : ∀ (j : Nat) (v : Value), ys[j]? = some v → FmNum j v kk) (hv : ([Value.int 202 ta, .int 260 tb] ++ ys)[i]? = some v) : ∃ (x : Nat) (t : Tok), v = .int (x : Int) t ∧ x < 270 := by
  match i with
  | 0 => cases hv; exact ⟨202, _, rfl, by decide⟩
  | 1 => cases hv; exact ⟨260, _, rfl, by decide⟩
  | i + 2 => exact h i v (by simpa using hv)
theorem room_mem {bb : Bool} {w q : Nat} (hw : w = 6 ∨ w = 4 ∨ w = 3) (hq : q < 3) : (if bb then w + 1 else 3 * w + 1 + q) ∈ rooms := by
  cases bb
  · have hq3 : q = 0 ∨ q = 1 ∨ q = 2 := by (first | lia | omega)
    rcases hw with rfl | rfl | rfl <;> rcases hq3 with rfl | rfl | rfl <;> decide
  · rcases hw with rfl | rfl | rfl <;> (simp only [if_true]; decide)
theorem noted_len {m last a b count : Nat} {eol : T} (hm : m ∈ rooms) (hl : last = 46 ∨ last = 32 ∨ last = 9) (ha : a < 5) (hb : b < 2) (hc : count = m - 4 + a + (m - 1) * b) (he : eol = [10] ∨ eol = [13, 10]) : (noteS count last m eol).length ≤ 200 := by
  have f := allC_spec note_size hm hl ha hb
  rw [← hc] at f
  simp only [Bool.and_eq_true, List.all_eq_true, decide_eq_true_eq] at f
  exact f.2 eol (by rcases he with rfl | rfl <;> simp)
/-- what dealt asks of the pieces -/
theorem deal_ok {deck : T} {w m : Nat} {note noted mark eol : T} {shut : Bool} {ps : List T} (P : PiecesOk deck w m note noted mark eol shut ps) (he : eol = [10] ∨ eol = [13, 10]) :
    ps ≠ [] ∧ (∀ r ∈ ps, (∀ c ∈ r, okC c = true) ∧ r.length ≤ 600) ∧ ps.length ≤ 600 ∧ (∀ p ∈ ps, NoBr p) ∧ (∀ c ∈ joinT ([32, 9] ++ eol) ps, okC c = true) ∧ (joinT ([32, 9] ++ eol) ps).length ≤ 600 ∧ (∀ c ∈ joinT eol ps, okC c = true) ∧ (joinT eol ps).length ≤ 600 := by
  have hr := P.row
  have hn := P.count
  have okj : ∀ e : T, (∀ c ∈ e, okC c = true) → ∀ c ∈ joinT e ps, okC c = true := fun e h c hc => by
    rcases mem_joinT hc with hc | ⟨r, hr', hc⟩
    · exact h c hc
    · exact ((hr r hr').1 c hc).1
  have lj : ∀ e : T, e.length ≤ 4 → (joinT e ps).length ≤ 600 := fun e h => by
    have h1 := joinT_len (e := e) (ys := ps) (B := 24) fun y hy => (hr y hy).2
    have h2 : ps.length * (24 + e.length) ≤ 16 * 28 := Nat.mul_le_mul hn.1 (by (first | lia | omega))
    (first | lia | omega)
  have h10 : ∀ c ∈ eol, okC c = true := by rcases he with rfl | rfl <;> decide
  have h12 : ∀ c ∈ [32, 9] ++ eol, okC c = true := by rcases he with rfl | rfl <;> decide
  refine ⟨fun e => ?_, fun r h => ⟨fun c hc => ((hr r h).1 c hc).1, by have := (hr r h).2; (first | lia | omega)⟩, by (first | lia | omega), fun p h c hc => ((hr p h).1 c hc).2, okj _ h12, lj _ ?_, okj _ h10, lj _ ?_⟩
  · rw [e] at hn; simp at hn
  · rcases he with rfl | rfl <;> decide
  · rcases he with rfl | rfl <;> decide
theorem turned_cast {t w : Nat} : ((t : Int) * ((12 : Int) / (w : Int))) % 11 = ((t * (12 / w) % 11 : Nat) : Int) := by push_cast; rfl
theorem sign_at {dd : List (Str × Tok)} {dk : T} {k i : Nat} {v : Value} (h : DeckAt dd dk k) (hd : dk.length = 12) (hv : (strValues dd)[i]? = some v) : i < 12 ∧ ∃ u : Nat, v = .str (mkS [dk.getD i 0]) u ∧ u ≠ 0 ∧ u < k := by
  have hl : dd.length = 12 := by have := congrArg List.length h.1; simpa [hd] using this
  unfold strValues at hv
  rw [List.getElem?_map] at hv
  obtain ⟨p, hp, rfl⟩ := Option.map_eq_some_iff.mp hv
  have hi : i < 12 := by have := (List.getElem?_eq_some_iff.mp hp).1; (first | lia | omega)
  refine ⟨hi, p.2, ?_, h.2 p (List.mem_of_getElem? hp)⟩
  have e := congrArg (fun z => z[i]?) h.1
  simp only [List.getElem?_map, hp, Option.map_some] at e
  have e2 : dk[i]? = some (dk.getD i 0) := by rw [List.getD_eq_getElem?_getD, List.getElem?_eq_getElem (by (first | lia | omega))]; rfl
  rw [e2] at e
  rw [Option.some.inj e]
theorem pos_cast {t i : Nat} (h : i < 11) : ((i : Int) * 1 * (t : Int)) % 11 = ((posT t i : Nat) : Int) := by
  unfold posT
  rw [if_neg (by (first | lia | omega)), Int.mul_one]; push_cast; rfl
theorem pos_last (t : Nat) : posT t 11 = 11 := by unfold posT; rw [if_pos rfl]
theorem strs_len12 {dd : List (Str × Tok)} {dk : T} {k : Nat} (h : DeckAt dd dk k) (hd : dk.length = 12) : (strValues dd).length = 12 := by
  have := congrArg List.length h.1; simpa [hd, strValues] using this
theorem law_B {h₀ : Heap} {L f : Addr} {cdv : Value} {o1 o2 o3 o4 o5 o6 o7 o8 : Obj} {Q : Flow → Shared → Prop} {n : Nat} {bb shut : Bool} {DD TL NL : Addr} {nl : List Value} {nn : List Int} {z6 : Nat} {dd : List (Str × Tok)} {dk mark eol : T} {tm te tt th : Tok} {vals : List (Str × Value)} (G : Glb d mg mb h₀) (hnb : NoneBooked h₀) (hA : AOk A (n + 4))
    (V : LawV vals bb DD shut) (F : Fr h₀ L h (look vals))
    (N : News h₀ L h [(TL, tupOf [.str (mkS mark) tm, .str (mkS eol) te]), (DD, listOf (strValues dd).toArray z6), (NL, listOf nl.toArray 0), (L + 8, o8), (L + 7, o7), (L + 6, o6), (L + 5, o5), (L + 4, o4), (L + 3, o3), (L + 2, o2), (L + 1, o1)])
    (y7 : o7.data = .cell (some (.int 1 tt))) (y6 : o6.data = .cell (some (.str (mkS dk) th))) (y5 : o5.data = .cell (some (.ref TL))) (y1 : o1.data = .cell (some (.ref NL)))
    (hnl : IntsAre nl nn) (hnlen : nl.length ≤ 60) (hdk : DeckAt dd dk k) (hok : DeckOk bb dk) (hinj : InjT dk) (hmark : IsMark mark) (heol : eol = [10] ∨ eol = [13, 10]) (hte0 : @Ne Nat te 0) (hte1 : @LT.lt Nat _ te k)
    (hQ : ∀ (h' : Heap) (k' : Nat) (vals' : List (Str × Value)) (t : Nat) (o6 o7 : Obj) (th : Tok), Fr h₀ L h' (look vals') → LawV vals' bb DD shut → t < 11 → 1 ≤ t →
      News h₀ L h' [(TL, tupOf [.str (mkS mark) tm, .str (mkS eol) te]), (DD, listOf (strValues dd).toArray z6), (L + 8, o8), (L + 7, o7), (L + 6, o6), (L + 5, o5), (L + 4, o4), (L + 3, o3), (L + 2, o2), (L + 1, o1)] →
      o6.data = .cell (some (.str (mkS (turnT dk t)) th)) → k ≤ k' → Q .next (S s₀ h' k')) :
    wpAny (model prog w) A (execs (((fbody 34).drop 12).take 1) (envX (fname 34) (fscope 34) L f cdv (cl8 L))) Q NoE (S s₀ h k) := by
  refine' with_body (i := 34) (fun b sc => wpAny (model prog w) A (execs ((b.drop 12).take 1) (envX (fname 34) sc L f cdv (cl8 L))) Q NoE (S s₀ h k)) ?hb ?hs ?_
  case hb => (conv => lhs; whnf); (try exact rfl)
  case hs => (conv => lhs; whnf); (try exact rfl)
  simp only [List.drop_succ_cons, List.drop_zero, List.take_succ_cons, List.take_zero]
  have V1 := V.bare
  have V2 := V.deck
  have V3 := V.shut
  refine k_consT (k_forK (h₀ := h₀) rfl rfl hA.handled ?_)
  repeat' wtm_at "ku"
  rename_i N2 h1 F1 N1 _
  refine k_compK F1 N1 (min 4 nl.length) (fun _ v => ∃ z t, v = .int z t) FmNum (fun i y k k' _ q => q) (by (first | lia | omega)) rfl ?hcell1 rfl ?hnames1 rfl ?hs1 ?hit1 ?helt1 ?done1
  case hcell1 => decide
  case hnames1 => decide
  case hs1 => intro _; rfl
  case hit1 =>
    repeat' wtm_at "ku"
    refine o_lslice3 F1 N1 (k_and_isL (D := NL) N1 (by wtm_at "ku_mem")) (by (first | lia | omega)) (nl.take 4) ?_
    repeat' wtm_at "ku"
    refine ⟨_, _, _, rfl, .none, .int _ _, pick_upto (y := 4), fun R9 h9 F9 N9 => ?_⟩
    have q := wk_list (w := w) (A := A) (E := NoE) (s₀ := s₀) (k := k + 1 + 1 + 1) hA.handled (k_and_isL N9 (by wtm_at "ku_mem")) F9 (news := _) (fun p hp => N9 p (.tail _ hp))
    rw [List.length_take] at q
    refine wpAny_mono q (fun it s₂ x => x.imp fun i v hv => ?_) fun _ _ x => x
    obtain ⟨t, e⟩ := (hnl.take 4).int_at i v hv
    exact ⟨_, t, e⟩
  case helt1 =>
    rintro s₃ C i v h₃ k₃ m₃ E' ⟨zz, tz, rfl⟩ hn hm F3 N3 hk3
    repeat' wtm_at "ku"
    refine ⟨h₃, _, rfl, Ext.refl _, (zz % 270).toNat, k₃ + 1, ?_, ?_⟩
    · rw [Int.toNat_of_nonneg (Int.emod_nonneg _ (by decide))]
    · have := Int.emod_lt_of_pos zz (b := 270) (by decide)
      have := Int.emod_nonneg zz (b := 270) (by decide)
      (first | lia | omega)
  case done1 =>
    rintro D1 h2 k2 ys z1 F2 N2' nD1 hk2 hyl hys
    refine o_ladd (vs := [_, _]) F2 N2' (k_and_isL N2' (by wtm_at "ku_mem")) (k_and_isL N2' (by wtm_at "ku_mem")) (by simp; (first | lia | omega)) fun NB h3 F3 N3 => ?_
    obtain ⟨nb, hnb0⟩ : ∃ y, y = [Value.int 202 k, .int 260 (k + 1)] ++ ys := ⟨_, rfl⟩
    rw [← hnb0] at N3
    refine ⟨NB, nb, 0, h3, k2, vals, [(NB, listOf nb.toArray 0), (TL, tupOf [.str (mkS mark) tm, .str (mkS eol) te]), (DD, listOf (strValues dd).toArray z6), (L + 8, o8), (L + 7, o7), (L + 6, o6), (L + 5, o5), (L + 4, o4), (L + 3, o3), (L + 2, o2), (L + 1, o1)],
      fun _ kk v nw => ∃ (t : Nat) (tt th : Tok) (o6' o7' : Obj), LawV v bb DD shut ∧ t < 11 ∧ 1 ≤ t ∧ nw = [(NB, listOf nb.toArray 0), (TL, tupOf [.str (mkS mark) tm, .str (mkS eol) te]), (DD, listOf (strValues dd).toArray z6), (L + 8, o8), (L + 7, o7'), (L + 6, o6'), (L + 5, o5), (L + 4, o4), (L + 3, o3), (L + 2, o2), (L + 1, o1)] ∧
        o7'.data = .cell (some (.int (t : Int) tt)) ∧ o6'.data = .cell (some (.str (mkS (turnT dk t)) th)) ∧ @LE.le Nat _ k kk, rfl, rfl, F3, by wtm_at "ku_pick", ?_, ?_, ?_, ?_, ?_⟩
    · rintro i q1 q2 v nw hq ⟨t, tt, th, o6', o7', a1, a2, a3, a4, a5, a6, a7⟩
      exact ⟨t, tt, th, o6', o7', a1, a2, a3, a4, a5, a6, Nat.le_trans a7 hq⟩
    · rintro i q1 v nw ⟨t, tt, th, o6', o7', a1, a2, a3, rfl, _⟩
      exact .head _
    · exact ⟨1, tt, th, o6, o7, V, by decide, by decide, rfl, y7, by rw [turn_one hok.len]; exact y6, by (first | lia | omega)⟩
    · rintro i v vals₁ news₁ I oI h4 k4 hv ⟨t, tt, th, o6', o7', V4, ht, ht1, rfl, y7', y6', hk4⟩ hkeys hII F4 N4
      rw [hnb0] at hv
      obtain ⟨num, tn, rfl, hnum⟩ := nums_at hys hv
      have V4b := V4.bare
      have V4d := V4.deck
      have V4s := V4.shut
      refine k_consT ?_
      repeat' wtm_at "ku2"
      rename_i W1 h5 F5 N5 _
      refine o_lpickw (num % 3) (k_and_isL N5 (by wtm_at "ku_mem")) (by (first | lia | omega)) (Nat.mod_lt _ (by decide)) fun wd tw hwd => ?_
      repeat' wtm_at "ku2"
      rename_i h6 F6 N6 hk6
      obtain ⟨m, hm⟩ : ∃ m, m = if bb then wd + 1 else 3 * wd + 1 + num / 3 % 3 := ⟨_, rfl⟩
      have hwd6 : 3 ≤ wd ∧ wd ≤ 6 := by (first | lia | omega)
      have hm21 : 4 ≤ m ∧ m ≤ 21 := by rw [hm]; split <;> (first | lia | omega)
      refine k_consT (k_assign (hs := rfl) (i_cut (m : Int) ?c2 fun t7 k7 => ?n2))
      case c2 =>
        refine k_ifexp ?_
        repeat' wtm_at "ku"
        refine Br.mk' (fun e => ?_) (fun e => ?_)
        · subst e
          have hmi : (m : Int) = (wd : Int) + 1 := by rw [hm, if_pos rfl]; rfl
          repeat' wtm_at "ku"
          exact ⟨_, _, by rw [hmi], rfl⟩
        · subst e
          have hmi : (m : Int) = 3 * (wd : Int) + 1 + (num : Int) / 3 % 3 := by rw [hm, if_neg (by decide)]; (first | lia | omega)
          repeat' wtm_at "ku"
          exact ⟨_, _, by rw [hmi], rfl⟩
      case n2 =>
        repeat' wtm_at "ku2"
        rename_i h8 F8 N8 hk8
        have hb2 : num / 135 = 0 ∨ num / 135 = 1 := by (first | lia | omega)
        obtain ⟨cnt, hcnt⟩ : ∃ c, c = m - 4 + num / 9 % 5 + (m - 1) * (num / 135) := ⟨_, rfl⟩
        refine k_consT (k_assign (hs := rfl) (i_cut (cnt : Int) ?c3 fun t9 k9 => ?n3))
        case c3 =>
          repeat' wtm_at "ku"
          have hci : (cnt : Int) = (m : Int) - 4 + (num : Int) / 9 % 5 + ((m : Int) - 1) * ((num : Int) / 135) := by
            rcases hb2 with e | e
            · have e' : (num : Int) / 135 = 0 := by (first | lia | omega)
              rw [hcnt, e, e']; (first | lia | omega)
            · have e' : (num : Int) / 135 = 1 := by (first | lia | omega)
              rw [hcnt, e, e']; (first | lia | omega)
          exact ⟨_, _, by rw [hci], rfl⟩
        case n3 =>
          repeat' wtm_at "ku2"
          rename_i h10 F10 N10 hk10
          refine k_consT ?_
          repeat' wtm_at "ku2"
          rename_i W2 h11 F11 N11 _
          refine o_lpickl (num / 45 % 3) (k_and_isL N11 (by wtm_at "ku_mem")) (by (first | lia | omega)) (Nat.mod_lt _ (by decide)) fun lc tl hlc => ?_
          repeat' wtm_at "ku2"
          rename_i h12 F12 N12 hk12
          have P := pieces_ok (deck := turnT dk t) (mark := mark) (eol := eol) (w := wd) (m := m) (q := num / 3 % 3) (last := lc) (a := num / 9 % 5) (b := num / 135) shut (turn_ok hok ht ht1) hwd (by (first | lia | omega)) hm hlc (by (first | lia | omega)) (by (first | lia | omega)) hmark heol hcnt
          have hct : cnt ≤ 41 := by
            rcases hb2 with e | e
            · rw [e] at hcnt; (first | lia | omega)
            · rw [e] at hcnt; (first | lia | omega)
          have hel : eol.length ≤ 2 := by rcases heol with rfl | rfl <;> decide
          have hnd := G.ndealt
          have hnn := G.nnote
          refine k_consT ?_
          repeat' wtm_at "ku2"
          refine k_own G.dealt F12 N12 (wpAny_with_toks (Nat.le_refl _) ?_)
          repeat' wtm_at "ku2"
          refine o_smul1 (n := cnt) rfl (by (first | lia | omega)) fun _ _ => ?_
          repeat' wtm_at "ku2"
          refine k_own G.note F12 N12 ?_
          repeat' wtm_at "ku2"
          have hTL : h12.IsTuple TL [Value.str (mkS mark) tm, .str (mkS eol) te].toArray := ⟨_, (N12 (TL, _) (by wtm_at "ku_mem")).1, rfl, _, rfl⟩
          refine o_titem 1 rfl hTL rfl (by decide) ?_
          repeat' wtm_at "ku2"
          refine ⟨_, _, rfl, F12, N12, c_note (n := n + 3) (G.keeps F12.keep) hA hm21.1 (by (first | lia | omega)) (by (first | lia | omega)) hel fun tb h13 k13 x13 => ?_⟩
          have F13 := x13.fr F12
          have N13 := x13.news N12
          repeat' wtm_at "ku2"
          intro hkc
          unfold S at hkc
          dsimp only at hkc
          obtain ⟨p1, p2, p3, p4, p5, p6, p7, p8⟩ := deal_ok P heol
          have hTL3 : h13.IsTuple TL [Value.str (mkS mark) tm, .str (mkS eol) te].toArray := ⟨_, (N13 (TL, _) (by wtm_at "ku_mem")).1, rfl, _, rfl⟩
          have hokt := turn_ok hok ht ht1
          have hnn2 := noted_len (eol := eol) (count := cnt) (by rw [hm]; exact room_mem (bb := bb) hwd (by (first | lia | omega) : num / 3 % 3 < 3)) hlc (by (first | lia | omega) : num / 9 % 5 < 5) (by (first | lia | omega) : num / 135 < 2) hcnt heol
          refine ⟨_, _, rfl, F13, N13, c_dealt (n := n + 1) (G.keeps F13.keep) hA hTL3 hokt.len (fun c hc => (hokt.sign c hc).1) ?s1 ?s2 ?s3 ?s4 hel hm21.1 (by (first | lia | omega)) hwd hte0 ?s5 ?s6 heol p1 p2 P.count.2.1 p3 P.dec3 p4 p5 p6 P.dec2 p7 p8 P.dec1 hnn2 P.exp P.enc fun tk14 h14 k14 x14 => ?s7⟩
          case s1 => simp; (first | lia | omega)
          case s2 =>
            intro c hc
            rcases List.mem_append.mp hc with hc | hc
            · rw [List.eq_of_mem_replicate hc]; decide
            · rw [List.mem_singleton.mp hc]; (first | lia | omega)
          case s3 => rcases hmark with rfl | rfl | rfl <;> decide
          case s4 => rcases hmark with rfl | rfl | rfl <;> decide
          case s5 => (first | lia | omega)
          case s6 =>
            rcases heol with rfl | rfl
            · exact ⟨10, [], rfl, .inl rfl⟩
            · exact ⟨13, [10], rfl, .inr rfl⟩
          case s7 =>
            have F14 := x14.fr F13
            have N14 := x14.news N13
            have htd := turn_deal (deck := dk) ht ht1 hwd
            rw [htd.1]
            have N14' : News h₀ L h14 [(I, oI), (NB, listOf nb.toArray 0), (TL, tupOf [.str (mkS mark) tm, .str (mkS eol) te]), (DD, listOf (strValues dd).toArray z6), (L + 8, o8), (L + 7, o7'), (L + 6, o6'), (L + 5, o5), (L + 4, o4), (L + 3, o3), (L + 2, o2), (L + 1, o1)] := by wtm_at "ku_pick"
            obtain ⟨vz, F14', Vz, hvw⟩ : ∃ vz, Fr h₀ L h14 (look vz) ∧ LawV vz bb DD shut ∧ look vz (Str.ofString "width") = some (.int (wd : Int) tw) := ⟨_, F14, ((((V4.more (by decide) (by decide) (by decide)).more (by decide) (by decide) (by decide)).more (by decide) (by decide) (by decide)).more (by decide) (by decide) (by decide)).more (by decide) (by decide) (by decide), by wtm_at "lk"⟩
            clear F14 N14 N13 F13 F12 N12 hTL3 hTL
            refine k_storec (pre := [(I, oI), (NB, listOf nb.toArray 0), (TL, tupOf [.str (mkS mark) tm, .str (mkS eol) te]), (DD, listOf (strValues dd).toArray z6), (L + 8, o8), (L + 7, o7')]) (post := [(L + 5, o5), (L + 4, o4), (L + 3, o3), (L + 2, o2), (L + 1, o1)]) F14' N14' y6' ?x61 ?x62 (fun h15 o6'' y6'' F15 N15 => ?_) rfl rfl rfl
            case x61 => (show OffL _ _); refine off_cons (Ne.symm (hII (L + 6, o6') (by wtm_at "ku_mem"))) ?_; wtm_at "ku_off"
            case x62 => (show OffL _ _); wtm_at "ku_off"
            replace N15 : News h₀ L h15 [(I, oI), (NB, listOf nb.toArray 0), (TL, tupOf [.str (mkS mark) tm, .str (mkS eol) te]), (DD, listOf (strValues dd).toArray z6), (L + 8, o8), (L + 7, o7'), (L + 6, o6''), (L + 5, o5), (L + 4, o4), (L + 3, o3), (L + 2, o2), (L + 1, o1)] := fun p hp => N15 p hp
            refine k_nextT fun hkT5 => ?_
            have hnmod := G.nmod
            have hnmul := G.nmul
            have hnfd := G.nfloordiv
            refine k_consT ?_
            repeat' wtm_at "ku2"
            refine k_own G.mod F15 N15 ?_
            repeat' wtm_at "ku2"
            refine k_own G.mul F15 N15 ?_
            repeat' wtm_at "ku2"
            refine k_own G.floordiv F15 N15 ?_
            repeat' wtm_at "ku2"
            refine ⟨_, _, rfl, F15, N15, c_floordiv (n := n + 3) (G.keeps F15.keep) hA (by (first | lia | omega)) (by (first | lia | omega)) fun _ h16 k16 x16 => ?_⟩
            have F16 := x16.fr F15
            have N16 := x16.news N15
            repeat' wtm_at "ku2"
            refine ⟨_, _, rfl, F16, N16, c_mul (n := n + 3) (G.keeps F16.keep) hA (by (first | lia | omega)) (by rcases hwd with rfl | rfl | rfl <;> decide) fun _ h17 k17 x17 => ?_⟩
            have F17 := x17.fr F16
            have N17 := x17.news N16
            repeat' wtm_at "ku2"
            refine ⟨_, _, rfl, F17, N17, c_mod (n := n + 3) (G.keeps F17.keep) hA (by decide) fun tt' h18 k18 x18 => ?_⟩
            have F18 := x18.fr F17
            have N18 := x18.news N17
            rw [turned_cast]
            refine k_storec (pre := [(I, oI), (NB, listOf nb.toArray 0), (TL, tupOf [.str (mkS mark) tm, .str (mkS eol) te]), (DD, listOf (strValues dd).toArray z6), (L + 8, o8)]) (post := [(L + 6, o6''), (L + 5, o5), (L + 4, o4), (L + 3, o3), (L + 2, o2), (L + 1, o1)]) F18 N18 y7' ?x71 ?x72 (fun h19 o7'' y7'' F19 N19 => ?_) rfl rfl rfl
            case x71 => (show OffL _ _); refine off_cons (Ne.symm (hII (L + 7, o7') (by wtm_at "ku_mem"))) ?_; wtm_at "ku_off"
            case x72 => (show OffL _ _); wtm_at "ku_off"
            replace N19 : News h₀ L h19 [(I, oI), (NB, listOf nb.toArray 0), (TL, tupOf [.str (mkS mark) tm, .str (mkS eol) te]), (DD, listOf (strValues dd).toArray z6), (L + 8, o8), (L + 7, o7''), (L + 6, o6''), (L + 5, o5), (L + 4, o4), (L + 3, o3), (L + 2, o2), (L + 1, o1)] := fun p hp => N19 p hp
            clear F15 N15 F16 N16 F17 N17 F18 N18 N14' F14'
            obtain ⟨t', ht'⟩ : ∃ t', t' = t * (12 / wd) % 11 := ⟨_, rfl⟩
            have ht1' : 1 ≤ t' := by rw [ht']; exact htd.2
            have ht11 : t' < 11 := by rw [ht']; exact Nat.mod_lt _ (by decide)
            rw [← ht'] at y6'' y7''
            refine k_nextT fun hkT6 => ?_
            have Vzd := Vz.deck
            have hnh := G.nhint
            have hni := G.nindexOf
            have hncc := G.nconcat
            obtain ⟨thh, hH⟩ := G.hint
            refine k_consT (k_if (k_cut (fun c s' => c = false ∧ ∃ h' k', s' = S s₀ h' k' ∧ Fr h₀ L h' (look vz) ∧ News h₀ L h' [(I, oI), (NB, listOf nb.toArray 0), (TL, tupOf [.str (mkS mark) tm, .str (mkS eol) te]), (DD, listOf (strValues dd).toArray z6), (L + 8, o8), (L + 7, o7''), (L + 6, o6''), (L + 5, o5), (L + 4, o4), (L + 3, o3), (L + 2, o2), (L + 1, o1)]) ?c7 ?n7))
            case c7 =>
              refine t_or ?_
              repeat' wtm_at "ku2"
              refine k_own hH F19 N19 ?_
              repeat' wtm_at "ku2"
              have hl12 : (turnT dk t').length = 12 := (turn_ok hok ht11 ht1').len
              refine ⟨_, _, rfl, F19, N19, wpAny_with_toks (Nat.le_refl _) (c_hint (n := n + 3) (G.keeps F19.keep) hA (by (first | lia | omega)) fun _ h20 k20 x20 => fun hk20 => ?_)⟩
              unfold S at hk20
              dsimp only at hk20
              have F20 := x20.fr F19
              have N20 := x20.news N19
              clear F19 N19
              repeat' wtm_at "ku2"
              refine Br.f (by rw [hl12]; rfl) ?_
              repeat' wtm_at "ku2"
              refine k_compK F20 N20 12 (fun i v => i < 12 ∧ ∃ u : Nat, v = .str (mkS [dk.getD i 0]) u ∧ u ≠ 0 ∧ u < k) (fun i z _ => ∃ u, z = .int ((posT t' i : Nat) : Int) u) (fun _ _ _ _ _ q => q) (by decide) rfl ?hcellI rfl ?hnamesI rfl ?hsI ?hitI ?heltI ?doneI
              case hcellI => decide
              case hnamesI => decide
              case hsI => intro _; rfl
              case hitI =>
                repeat' wtm_at "ku2"
                have q := wk_list (w := w) (A := A) (E := NoE) (s₀ := s₀) (k := k20 + 1) hA.handled (k_and_isL (D := DD) N20 (by wtm_at "ku_mem")) F20 N20
                rw [strs_len12 hdk hok.len] at q
                exact wpAny_mono q (fun it s₂ x => x.imp fun i v hv => sign_at hdk hok.len hv) fun _ _ x => x
              case heltI =>
                rintro s₃ C i v h₃ k₃ m₃ E' ⟨hi12, u, rfl, hu0, huk⟩ hn hm F3 N3 hk3
                repeat' wtm_at "ku2"
                refine k_own G.indexOf F3 N3 (wpAny_with_toks (Nat.le_refl _) ?_)
                repeat' wtm_at "ku2"
                refine k_own G.concat F3 N3 ?_
                repeat' wtm_at "ku2"
                refine ⟨_, _, rfl, F3, N3, c_concat (n := n + 3) (G.keeps F3.keep) hA (by (first | lia | omega)) fun tk h21 k21 x21 => ?_⟩
                have F21 := x21.fr F3
                have N21 := x21.news N3
                have hn21 := hn.keeps x21
                repeat' wtm_at "ku2"
                intro hkI
                unfold S at hkI
                dsimp only at hkI
                obtain ⟨q1, q2⟩ := turn_index (deck := dk) hok.len hinj ht11 ht1' hi12
                exact ⟨_, _, rfl, F21, N21, c_indexOf (n := n + 3) (i0 := posT t' i) (G.keeps F21.keep) (nbk hnb F21.keep) hA hu0 (by show @LT.lt Nat _ _ _; (first | lia | omega)) q1 q2 fun tk h22 k22 x22 => ⟨h22, k22, rfl, x21.trans x22, tk, rfl⟩⟩
              case doneI =>
                rintro D1 h23 k23 ys1 z1 F23 N23 nD1 hk23 hyl1 hys1
                repeat' wtm_at "ku2"
                refine k_compK F23 N23 11 (fun i v => i < 11 ∧ ∃ u, v = .int ((i : Int) * 1) u) (fun i z _ => ∃ u, z = .int ((posT t' i : Nat) : Int) u) (fun _ _ _ _ _ q => q) (by decide) rfl ?hcellJ rfl ?hnamesJ rfl ?hsJ ?hitJ ?heltJ ?doneJ
                case hcellJ => decide
                case hnamesJ => decide
                case hsJ => intro _; rfl
                case hitJ =>
                  repeat' wtm_at "ku2"
                  refine o_range1 F23 N23 fun r h9 k9 _ _ hr F9 N9 => ?_
                  exact wpAny_mono (wk_range hA.handled hr (by decide) (by decide) F9 N9) (fun _ _ x => x.lt) fun _ _ x => x
                case heltJ =>
                  rintro s₃ C i v h₃ k₃ m₃ E' ⟨hi11, u, rfl⟩ hn hm F3 N3 hk3
                  repeat' wtm_at "ku2"
                  exact ⟨h₃, _, rfl, Ext.refl _, _, by rw [pos_cast hi11]⟩
                case doneJ =>
                  rintro D2 h24 k24 ys2 z2 F24 N24 nD2 hk24 hyl2 hys2
                  repeat' wtm_at "ku2"
                  rename_i D3 h25 F25 N25 _
                  refine o_ladd (ws := [_]) F25 N25 (k_and_isL N25 (by wtm_at "ku_mem")) (k_and_isL N25 (by wtm_at "ku_mem")) (by simp; (first | lia | omega)) fun D4 h26 F26 N26 => ?_
                  have I1 : IntsAre ys1 ((List.range 12).map fun i => ((posT t' i : Nat) : Int)) := ints_of ys1 12 hyl1 fun j v hv => hys1 j v hv
                  have I2 : IntsAre ys2 ((List.range 11).map fun i => ((posT t' i : Nat) : Int)) := ints_of ys2 11 hyl2 fun j v hv => hys2 j v hv
                  have I3 := I2.append (IntsAre.cons 11 k24 IntsAre.nil)
                  have e12 : (List.range 11).map (fun i => ((posT t' i : Nat) : Int)) ++ [11] = (List.range 12).map fun i => ((posT t' i : Nat) : Int) := by
                    rw [List.range_succ (n := 11), List.map_append, List.map_cons, List.map_nil, pos_last]; rfl
                  rw [e12] at I3
                  refine o_lne_ints (k_and_isL (D := D1) N26 (by wtm_at "ku_mem")) (k_and_isL N26 (by wtm_at "ku_mem")) I1 I3 hA.cl ?_
                  repeat' wtm_at "ku2"
                  exact ⟨rfl, h26, _, rfl, F26, by wtm_at "ku_pick"⟩
            case n7 =>
              rintro c s' ⟨rfl, h30, k30, rfl, F30, N30⟩
              refine Br.f rfl ?_
              repeat' wtm_at "ku2"
              rename_i hkT7
              exact ⟨h30, k30, vz, [(NB, listOf nb.toArray 0), (TL, tupOf [.str (mkS mark) tm, .str (mkS eol) te]), (DD, listOf (strValues dd).toArray z6), (L + 8, o8), (L + 7, o7''), (L + 6, o6''), (L + 5, o5), (L + 4, o4), (L + 3, o3), (L + 2, o2), (L + 1, o1)], rfl, F30, N30, rfl, t', tt', tk14, o6'', o7'', Vz, ht11, ht1', rfl, y7'', y6'', by (first | lia | omega)⟩
    · rintro h4 k4 vals' news' F4 N4 ⟨t, tt, th, o6', o7', V4, ht, ht1, rfl, y7', y6', hk4⟩
      refine k_nextT fun hkF => ?_
      repeat' wtm_at "ku2"
      exact hQ h4 k4 vals' t o6' o7' th F4 V4 ht ht1 (by wtm_at "ku_pick") y6' hk4
theorem law_C1 {h₀ : Heap} {L f : Addr} {cdv : Value} {o1 o2 o3 o4 o5 o6 o7 o8 : Obj} {Q : Flow → Shared → Prop} {n : Nat} {TL : Addr} {held mark eol : T} {tm te th : Tok} {vals : List (Str × Value)} (G : Glb d mg mb h₀) (hA : AOk A (n + 4)) (hfr : A.frames = some [envX (fname 34) (fscope 34) L f cdv (cl8 L)])
    (F : Fr h₀ L h (look vals))
    (N : News h₀ L h [(TL, tupOf [.str (mkS mark) tm, .str (mkS eol) te]), (L + 8, o8), (L + 7, o7), (L + 6, o6), (L + 5, o5), (L + 4, o4), (L + 3, o3), (L + 2, o2), (L + 1, o1)])
    (y6 : o6.data = .cell (some (.str (mkS held) th))) (y5 : o5.data = .cell (some (.ref TL)))
    (hQ : ∀ (h' : Heap) (k' : Nat) (R1 R2 D : Addr) (u1 u2 : Tok) (z1 z2 z3 : Nat), Fr h₀ L h' (look ((Str.ofString "refused", .ref D) :: vals)) →
      News h₀ L h' [(D, listOf ([R1, R2].map Value.ref).toArray z1), (R2, listOf [Value.str (mkS msgT) u2].toArray z2), (R1, listOf [Value.str (mkS msgT) u1].toArray z3), (TL, tupOf [.str (mkS mark) tm, .str (mkS eol) te]), (L + 8, o8), (L + 7, o7), (L + 6, o6), (L + 5, o5), (L + 4, o4), (L + 3, o3), (L + 2, o2), (L + 1, o1)] → Q .next (S s₀ h' k')) :
    wpAny (model prog w) A (execs (((fbody 34).drop 13).take 1) (envX (fname 34) (fscope 34) L f cdv (cl8 L))) Q NoE (S s₀ h k) := by
  revert hfr
  refine' with_body (i := 34) (fun b sc => A.frames = some [envX (fname 34) sc L f cdv (cl8 L)] → wpAny (model prog w) A (execs ((b.drop 13).take 1) (envX (fname 34) sc L f cdv (cl8 L))) Q NoE (S s₀ h k)) ?hb ?hs ?_
  case hb => (conv => lhs; whnf); (try exact rfl)
  case hs => (conv => lhs; whnf); (try exact rfl)
  simp only [List.drop_succ_cons, List.drop_zero, List.take_succ_cons, List.take_zero]
  intro hfr
  have hnr := G.nrefused
  refine k_consT (k_compR F hA.handled rfl rfl ?hcell rfl ?hnames rfl rfl rfl ?hs ?hit)
  case hcell => decide
  case hnames => decide
  case hs => intro _; rfl
  case hit =>
    repeat' wtm_at "ku2"
    rename_i TX h1 F1 N1 _
    refine ⟨TX, [.str (mkS held) th, .str (mkS []) k], [(TX, tupOf [.str (mkS held) th, .str (mkS []) k]), (TL, tupOf [.str (mkS mark) tm, .str (mkS eol) te]), (L + 8, o8), (L + 7, o7), (L + 6, o6), (L + 5, o5), (L + 4, o4), (L + 3, o3), (L + 2, o2), (L + 1, o1)], h1, _, rfl, rfl, F1, N1, .head _, by simp, fun g => ?_⟩
    show LCg.CompRest _ _ _ _ _ _ _ _ _ _ _ _ _ _ _ 2 0 [] _
    refine LCg.CompRest.succ ?_
    rintro v I oI C oC D m₂ h2 tk2 E' hP hC hm F3 N3 off ne
    cases hP
    change wpAny _ _ _ _ _ (S s₀ h2 tk2)
    have hn := hC.ns (N3 (C, oC) (by wtm_at "ku_mem")).1
    repeat' wtm_at "ku2"
    refine k_own G.refused F3 N3 ?_
    repeat' wtm_at "ku2"
    have hTL : h2.IsTuple TL [Value.str (mkS mark) tm, .str (mkS eol) te].toArray := ⟨_, (N3 (TL, _) (by wtm_at "ku_mem")).1, rfl, _, rfl⟩
    refine o_titem 1 rfl hTL rfl (by decide) ?_
    repeat' wtm_at "ku2"
    refine ⟨_, _, rfl, F3, N3, c_refused (n := n + 1) G F3 N3 hA hfr rfl fun R1 u1 h5 k5 F5 N5 hne => ?_⟩
    refine ⟨h5, k5, (R1, listOf [Value.str (mkS msgT) u1].toArray 0) :: _, rfl, F5, ?_, ⟨⟨Ne.symm (hne (I, oI) (by wtm_at "ku_mem")), Ne.symm (hne (C, oC) (by wtm_at "ku_mem")), Ne.symm (hne (D, _) (by wtm_at "ku_mem"))⟩, off⟩, .tail _ (.head _), ?_⟩
    · wtm_at "ku_pick"
    clear F3 N3 off ne hC hn hTL hm hne F5 N5
    refine LCg.CompRest.succ ?_
    rintro v I oI C oC D m₂ h2 tk2 E' hP hC hm F3 N3 off ne
    cases hP
    change wpAny _ _ _ _ _ (S s₀ h2 tk2)
    have hn := hC.ns (N3 (C, oC) (by wtm_at "ku_mem")).1
    repeat' wtm_at "ku2"
    refine k_own G.refused F3 N3 ?_
    repeat' wtm_at "ku2"
    have hTL : h2.IsTuple TL [Value.str (mkS mark) tm, .str (mkS eol) te].toArray := ⟨_, (N3 (TL, _) (by wtm_at "ku_mem")).1, rfl, _, rfl⟩
    refine o_titem 1 rfl hTL rfl (by decide) ?_
    repeat' wtm_at "ku2"
    refine ⟨_, _, rfl, F3, N3, c_refused (n := n + 1) G F3 N3 hA hfr rfl fun R2 u2 h5 k5 F5 N5 hne => ?_⟩
    refine ⟨h5, k5, (R2, listOf [Value.str (mkS msgT) u2].toArray 0) :: _, rfl, F5, ?_, ⟨⟨Ne.symm (hne (I, oI) (by wtm_at "ku_mem")), Ne.symm (hne (C, oC) (by wtm_at "ku_mem")), Ne.symm (hne (D, _) (by wtm_at "ku_mem"))⟩, off⟩, .tail _ (.tail _ (.head _)), ?_⟩
    · wtm_at "ku_pick"
    refine LCg.CompRest.zero ?_
    intro D6 h6 tk6 F6 N6
    refine k_nextT fun _ => ?_
    repeat' wtm_at "ku2"
    refine hQ h6 tk6 R1 R2 D6 u1 u2 2 0 0 F6 fun p hp => ?_
    rcases List.mem_cons.mp hp with rfl | hp
    · exact N6 (D6, _) (.head _)
    · refine N6 p (.tail _ ?_)
      simp only [List.mem_cons, List.mem_nil_iff, or_false] at hp
      rcases hp with h | h | h | h | h | h | h | h | h | h | h <;> (subst h; wtm_at "ku_mem")
noncomputable def FmRow75 (l : T) (v y : Value) : Prop := ∀ (p : Nat) t, v = .int (p : Int) t → ∃ t', y = .str (mkS ((l.drop p).take 75)) t'
theorem rows75_at {l : T} {vs ys : List Value} (hlen : vs.length = (l.length + 74) / 75) (hP : ∀ (j : Nat) (v : Value), vs[j]? = some v → ∃ t, v = .int (j * (75 : Int)) t) (hF : Paired (FmRow75 l) vs ys) : ∃ lc : List (Str × Tok), ys = strValues lc ∧ lc.map (·.1) = (rows75 l).map mkS := by
  obtain ⟨e, ih⟩ := paired_at hF
  refine strs_of _ _ (by rw [← e, hlen]; simp [rows75]) fun j z hz => ?_
  unfold rows75 at hz
  rw [List.getElem?_map] at hz
  obtain ⟨j', hj', rfl⟩ := Option.map_eq_some_iff.mp hz
  have hjl : j < (l.length + 74) / 75 := by have := (List.getElem?_eq_some_iff.mp hj').1; simpa using this
  have hjj : j' = j := by rw [List.getElem?_range hjl] at hj'; exact (Option.some.inj hj').symm
  subst hjj
  have hj : j' < vs.length := by (first | lia | omega)
  obtain ⟨t, hv⟩ := hP j' vs[j'] (List.getElem?_eq_getElem hj)
  obtain ⟨y, hy, hf⟩ := ih j' vs[j'] (List.getElem?_eq_getElem hj)
  obtain ⟨t', rfl⟩ := hf (j' * 75) t (by rw [hv, Int.natCast_mul]; rfl)
  exact ⟨t', hy⟩
theorem line_len {bb : Bool} {held : T} (H : DeckOk bb held) : (rep7 ((held.map code).flatten)).length = if bb then 84 else 252 := by
  rw [rep7_len]
  obtain ⟨c0, c1, c2, c3, c4, c5, c6, c7, c8, c9, c10, c11, rfl⟩ := twelve H.len
  cases bb with
  | true =>
    rw [code_pl fun c hc => (H.sign c hc).2.2.2]; rfl
  | false =>
    rw [code_np fun c hc => (H.sign c hc).2.2.2]; rfl
theorem range75 {bb : Bool} {N : Nat} (h : N = if bb then 84 else 252) : Builtin.Range.small 0 (N : Int) 75 = true ∧ Builtin.Range.rangeSize 0 (N : Int) 75 = (((N + 74) / 75 : Nat) : Int) ∧ (N + 74) / 75 ≤ 4 := by
  subst h; cases bb <;> decide
theorem law_C2 {h₀ : Heap} {L f : Addr} {cdv : Value} {o1 o2 o3 o4 o5 o6 o7 o8 : Obj} {Q : Flow → Shared → Prop} {n : Nat} {TL D R1 R2 : Addr} {held mark eol : T} {tm te th u1 u2 : Tok} {z1 z2 z3 : Nat} {bb : Bool} {v8 : Option Value} {vals : List (Str × Value)} (G : Glb d mg mb h₀) (hA : AOk A (n + 4))
    (F : Fr h₀ L h (look ((Str.ofString "refused", .ref D) :: vals)))
    (N : News h₀ L h [(D, listOf ([R1, R2].map Value.ref).toArray z1), (R2, listOf [Value.str (mkS msgT) u2].toArray z2), (R1, listOf [Value.str (mkS msgT) u1].toArray z3), (TL, tupOf [.str (mkS mark) tm, .str (mkS eol) te]), (L + 8, o8), (L + 7, o7), (L + 6, o6), (L + 5, o5), (L + 4, o4), (L + 3, o3), (L + 2, o2), (L + 1, o1)])
    (y8 : o8.data = .cell v8) (y6 : o6.data = .cell (some (.str (mkS held) th))) (y5 : o5.data = .cell (some (.ref TL))) (hok : DeckOk bb held) (hel : eol.length ≤ 2)
    (hQ : ∀ (h' : Heap) (k' : Nat), Ext h₀ h' → Q (.ret (.bool true)) (S s₀ h' k')) :
    wpAny (model prog w) A (execs ((fbody 34).drop 14) (envX (fname 34) (fscope 34) L f cdv (cl8 L))) Q NoE (S s₀ h k) := by
  refine' with_body (i := 34) (fun b sc => wpAny (model prog w) A (execs (b.drop 14) (envX (fname 34) sc L f cdv (cl8 L))) Q NoE (S s₀ h k)) ?hb ?hs ?_
  case hb => (conv => lhs; whnf); (try exact rfl)
  case hs => (conv => lhs; whnf); (try exact rfl)
  simp only [List.drop_succ_cons, List.drop_zero]
  have hnr := G.nrefused
  have hne := G.nenc
  have hnc := G.ncode
  obtain ⟨ue, ve, hE⟩ := G.enc
  obtain ⟨vz, hvz⟩ : ∃ v, v = (Str.ofString "refused", Value.ref D) :: vals := ⟨_, rfl⟩
  have hD : look vz (Str.ofString "refused") = some (.ref D) := by rw [hvz]; exact look_hd
  rw [← hvz] at F
  refine k_consT (k_if (k_cut (fun c s' => c = false ∧ ∃ h' k', s' = S s₀ h' k' ∧ Fr h₀ L h' (look vz) ∧ News h₀ L h' [(L + 8, o8), (L + 7, o7), (L + 6, o6), (L + 5, o5), (L + 4, o4), (L + 3, o3), (L + 2, o2), (L + 1, o1)]) ?c1 ?n1))
  case c1 =>
    refine t_or ?_
    repeat' wtm_at "ku2"
    rename_i MM _ _ _ _ LL h1 F1 N1 _
    refine o_lmul2 F1 N1 (by wtm_at "ku_mem") fun L2 h2 F2 N2 => ?_
    repeat' wtm_at "ku2"
    refine o_lne_msgs (R := [R1, R2]) (M := MM) (x := mkS msgT) N2 (by wtm_at "ku_mem") (by wtm_at "ku_mem") ?hR (by wtm_at "ku_mem") (by have := hA.units; unfold cLine; (first | lia | omega)) ?_
    case hR =>
      intro a ha
      simp only [List.mem_cons, List.mem_nil_iff, or_false] at ha
      rcases ha with rfl | rfl
      · exact ⟨u1, z3, by wtm_at "ku_mem"⟩
      · exact ⟨u2, z2, by wtm_at "ku_mem"⟩
    repeat' wtm_at "ku2"
    refine Br.f rfl ?_
    repeat' wtm_at "ku2"
    refine k_own G.refused F2 N2 ?_
    repeat' wtm_at "ku2"
    have hTL : h2.IsTuple TL [Value.str (mkS mark) tm, .str (mkS eol) te].toArray := ⟨_, (N2 (TL, _) (by wtm_at "ku_mem")).1, rfl, _, rfl⟩
    refine o_titem 1 rfl hTL rfl (by decide) ?_
    repeat' wtm_at "ku2"
    refine ⟨_, _, rfl, F2, N2, c_refused4 (n := n + 1) (G.keeps F2.keep) hA hel fun tk h4 k4 x4 => ?_⟩
    have F4 := x4.fr F2
    have N4 := x4.news N2
    repeat' wtm_at "ku2"
    exact ⟨by simp, h4, _, rfl, F4, by wtm_at "ku_pick"⟩
  case n1 =>
    rintro c s' ⟨rfl, h3, k3, rfl, F3, N3⟩
    refine Br.f rfl ?_
    repeat' wtm_at "ku2"
    refine k_consT ?_
    repeat' wtm_at "ku1"
    refine k_compF F3 N3 held.length (fun i v => ∃ c u, held[i]? = some c ∧ v = .str (mkS [c]) u) FmCode (by rw [hok.len]; decide) rfl ?hcell rfl ?hnames rfl ?hs ?hit ?helt ?done
    case hcell => decide
    case hnames => decide
    case hs => intro _; rfl
    case hit =>
      repeat' wtm_at "ku2"
      exact wk_str hA.handled F3 N3
    case helt =>
      rintro s₃ C i v h₃ k₃ m₃ E' ⟨c, u, hc, rfl⟩ hn hm F3 N3 hk3
      repeat' wtm_at "ku2"
      refine k_own G.code F3 N3 ?_
      repeat' wtm_at "ku2"
      refine ⟨_, _, rfl, F3, N3, c_code (n := n + 3) (G.keeps F3.keep) hA (hok.sign c (List.mem_of_getElem? hc)).1 fun t7 h7 k7 x7 => ⟨?_, h7, k7, rfl, x7⟩⟩
      intro c' t' e'
      cases e'
      exact ⟨_, rfl⟩
    case done =>
      rintro D3 h7 k7 vs ys z F7 N7 nD3 hk7 hlen hP hF
      obtain ⟨lc, rfl, elc⟩ := cods_at hlen hP hF
      have hcl := codes_len held
      rw [hok.len] at hcl
      repeat' wtm_at "ku1"
      refine o_join (ys := held.map code) (k_and_isL N7 (by wtm_at "ku_mem")) elc 3 (fun y hy => by obtain ⟨c, _, rfl⟩ := List.mem_map.mp hy; exact (code_len c).2) (by rw [List.length_map, hok.len]; decide) fun _ _ => ?_
      rw [joinT_nil]
      repeat' wtm_at "ku1"
      refine o_smul (n := 7) rfl (by (first | lia | omega)) (by decide) (by (first | lia | omega)) fun tl kl => ?_
      obtain ⟨ln, hln0⟩ : ∃ y, y = rep7 ((held.map code).flatten) := ⟨_, rfl⟩
      have hln : (List.replicate 7 ((held.map code).flatten)).flatten = ln := hln0.symm
      rw [hln]
      have hlnl := line_len hok
      rw [← hln0] at hlnl
      obtain ⟨r1, r2, r3⟩ := range75 hlnl
      refine k_storec (pre := [(D3, listOf (strValues lc).toArray z)]) (post := [(L + 7, o7), (L + 6, o6), (L + 5, o5), (L + 4, o4), (L + 3, o3), (L + 2, o2), (L + 1, o1)]) F7 N7 y8 ?x1 ?x2 (fun h8 o8' y8' F8 N8 => ?_) rfl rfl rfl
      case x1 => (show OffL _ _); wtm_at "ku_off"
      case x2 => (show OffL _ _); wtm_at "ku_off"
      replace N8 : News h₀ L h8 [(D3, listOf (strValues lc).toArray z), (L + 8, o8'), (L + 7, o7), (L + 6, o6), (L + 5, o5), (L + 4, o4), (L + 3, o3), (L + 2, o2), (L + 1, o1)] := fun p hp => N8 p hp
      refine k_nextT fun _ => ?_
      refine k_consT ?_
      repeat' wtm_at "ku2"
      refine k_own hE F8 N8 ?_
      repeat' wtm_at "ku2"
      refine o_smul (n := 7) rfl (by rw [hok.len]; decide) (by decide) (by rw [hok.len]; decide) fun _ _ => ?_
      repeat' wtm_at "ku2"
      have h84 : (rep7 held).length = 84 := by rw [rep7_len, hok.len]
      refine ⟨_, _, rfl, F8, N8, c_encG (n := n + 2) (l := rep7 held) (mm := 76) (eol := [10]) (G.keeps F8.keep) hA (.inr ⟨rfl, rfl, rfl⟩) (fun c hc => (hok.sign c (rep7_mem hc)).1) (by (first | lia | omega)) (by decide) (by decide) (by decide) fun tb h9 k9 x9 => ?_⟩
      rw [final_enc hok, ← hln0]
      have F9 := x9.fr F8
      have N9 := x9.news N8
      repeat' wtm_at "ku2"
      have hl252 : ln.length ≤ 252 := by rw [hlnl]; split <;> decide
      refine k_compF F9 N9 ((ln.length + 74) / 75) (fun i v => i < (ln.length + 74) / 75 ∧ ∃ t, v = .int (i * (75 : Int)) t) (FmRow75 ln) (by (first | lia | omega)) rfl ?hcell2 rfl ?hnames2 rfl ?hs2 ?hit2 ?helt2 ?done2
      case hcell2 => decide
      case hnames2 => decide
      case hs2 => intro _; rfl
      case hit2 =>
        repeat' wtm_at "ku2"
        refine o_range3 (by decide) (by decide) F9 N9 fun r h10 k10 hr F10 N10 => ?_
        exact wpAny_mono (wk_range hA.handled hr r1 r2 F10 N10) (fun _ _ x => x.lt) fun _ _ x => x
      case helt2 =>
        rintro s₃ C i v h₃ k₃ m₃ E' ⟨hi9, t, rfl⟩ hn hm F3 N3 hk3
        obtain ⟨p, hp⟩ : ∃ y, y = i * 75 := ⟨_, rfl⟩
        have hpi : (i : Int) * (75 : Int) = (p : Int) := by rw [hp, Int.natCast_mul]; rfl
        rw [hpi] at hm
        repeat' wtm_at "ku2"
        refine o_slcX (by (first | lia | omega)) ?_
        repeat' wtm_at "ku2"
        refine ⟨_, _, rfl, ⟨_, _, rfl, _, _, rfl, slice_at ln p 75 rfl rfl⟩, fun t9 h9' k9' x9 => ⟨?_, _, _, rfl, x9⟩⟩
        intro p' t' e'
        injection e' with e1 e2
        have e3 : p' = p := by rw [hpi] at e1; (first | lia | omega)
        subst e3
        exact ⟨t9, rfl⟩
      case done2 =>
        rintro D4 h11 k11 vs2 ys2 z4 F11 N11 nD4 hk11 hlen2 hP2 hF2
        obtain ⟨lr, rfl, elr⟩ := rows75_at hlen2 (fun j v hv => (hP2 j v hv).2) hF2
        repeat' wtm_at "ku2"
        refine o_join (ys := rows75 ln) (k_and_isL N11 (by wtm_at "ku_mem")) elr 75 (fun y hy => ?_) ?_ fun _ _ => ?_
        · unfold rows75 at hy
          obtain ⟨j, _, rfl⟩ := List.mem_map.mp hy
          exact List.length_take_le _ _
        · have h4 : (rows75 ln).length ≤ 4 := by unfold rows75; simp; (first | lia | omega)
          have a1 : (rows75 ln).length * 75 ≤ 4 * 75 := Nat.mul_le_mul_right _ h4
          have a2 : (rows75 ln).length * [61, 10].length ≤ 4 * 2 := Nat.mul_le_mul h4 (by decide)
          (first | lia | omega)
        repeat' wtm_at "ku2"
        have hb : decide (joinT [61, 10] (rows75 ln) = joinT [61, 10] (rows75 ln)) = true := by simp
        rw [hb]
        exact hQ _ _ F11.keep
theorem split5 (l : List Stmt) : l = l.take 6 ++ ((l.drop 6).take 6 ++ ((l.drop 12).take 1 ++ ((l.drop 13).take 1 ++ l.drop 14))) := by
  have e1 : l.take 6 ++ l.drop 6 = l := List.take_append_drop 6 l
  have e2 : (l.drop 6).take 6 ++ (l.drop 6).drop 6 = l.drop 6 := List.take_append_drop 6 _
  have e3 : (l.drop 12).take 1 ++ (l.drop 12).drop 1 = l.drop 12 := List.take_append_drop 1 _
  have e4 : (l.drop 13).take 1 ++ (l.drop 13).drop 1 = l.drop 13 := List.take_append_drop 1 _
  rw [List.drop_drop] at e2 e3 e4
  rw [e4, e3, e2, e1]
theorem c_law {fl R : Addr} {vs : List Value} {ns : List Int} {Q : Value → Shared → Prop} (G : Glb d mg mb h) (hnb : NoneBooked h) (H : FnIs h 34 fl []) (hl : h.IsList R vs.toArray) (hi : IntsAre vs ns) (hsz : vs.length ≤ 100) (hQ : ∀ h' k', Ext h h' → Q (.bool true) (S s₀ h' k')) :
    wpAny (model prog w) callerA (call (.ref fl) [.ref R]) Q E (S s₀ h k) := by
  refine' k_enterC (n := 4) (i := 34) (body := fbody 34) (scope := fscope 34) [(Str.ofString "script", .ref R)] (fun L => cl8 L) G H ?hA ?hp ?hb ?hs ?hbind ?hkind ?hnd ?hcl ?hco ?hgen ?hk ?_
  case hA => exact ⟨rfl, by decide, by decide⟩
  case hp => (conv => lhs; whnf); (try exact rfl)
  case hb => rfl
  case hs => rfl
  case hco => exact rfl
  case hgen => exact rfl
  case hk => exact rfl
  case hnd => decide
  case hcl => intro _; rfl
  case hkind => exact kindsX rfl
  wtm_at "ku_bind0"
  intro h₁ k₁ L cdv A' Qf cells hkk hA' hAe hR F0 N0 Y
  have F : Fr h L h₁ (look [(Str.ofString "script", .ref R)]) := F0
  obtain ⟨o8, o7, o6, o5, o4, o3, o2, o1, rfl, y8, y7, y6, y5, y4, y3, y2, y1⟩ := cells_eight Y
  have hfr := (congrArg Around.frames hAe).trans (Around.frames_deeper (outer := []) rfl)
  rw [split5 (fbody 34)]
  refine k_split (law_A1 (n := 4) G hA' hl hi hsz F N0 y1 y2 y3 y4 y5 y6 y7 y8 ?_)
  intro h2 k2 x0 x1 t0 t1 tap bb ap K3 DL NL us dl nl nn z3 z o1 o2 o3 o4 o5 o6 o7 o8 F2 N2 y8 y7 y6 y5 y4 y3 y2 y1 IK hdl hx0 hx1 hnl hnlen hap hk2
  refine k_next (k_split (law_A2 (n := 4) G hA' F2 N2 y8 y7 y6 y5 y4 y3 y2 y1 IK hdl hx0 hx1 hap hk2 ?_))
  intro h3 k3 vals3 DD TL dd spot b z6 tm te tt th mark eol shut o5 o6 o7 F3 hb3 hd3 hs3 N3 y7 y6 y5 hdk hmark heol hte0 hte1 hspot hbl
  obtain ⟨hok, hinj⟩ := deck_ok (bare := bb) (s := x0 / 2) hap hspot hbl
  refine k_next (k_split (law_B (n := 0) G hnb hA' ⟨hb3, hd3, hs3⟩ F3 N3 y7 y6 y5 y1 hnl hnlen hdk hok hinj hmark heol hte0 hte1 ?_))
  intro h4 k4 vals4 t o6 o7 th4 F4 V4 ht ht1 N4 y6 hk4
  have N4' : News h L h4 [(TL, tupOf [.str (mkS mark) tm, .str (mkS eol) te]), (L + 8, o8), (L + 7, o7), (L + 6, o6), (L + 5, o5), (L + 4, o4), (L + 3, o3), (L + 2, o2), (L + 1, o1)] := by wtm_at "ku_pick"
  refine k_next (k_split (law_C1 (n := 0) G hA' hfr F4 N4' y6 y5 ?_))
  intro h5 k5 R1 R2 D u1 u2 z1 z2 z3 F5 N5
  exact k_next (law_C2 (n := 0) G hA' F5 N5 y8 y6 y5 (turn_ok hok ht ht1) (by rcases heol with rfl | rfl <;> decide) fun h6 k6 x6 => hR _ _ _ (hQ _ _ x6))
end
end Ku
section
open PySem PySem.W PyProof.Rows
namespace Ku
section
variable {K : Frag} {h : Heap} {mg mb : Str → Option Value}
noncomputable def datIn (K : Frag) (f : Addr) : FuncData := match K.lookup f with
  | some ⟨_, _, .func d, _⟩ => d
  | _ => fnOf Str.empty Str.empty default [] default .none .none .none .none none .none .none
noncomputable def isFnIn (K : Frag) (f : Addr) : Bool := match K.lookup f with
  | some ⟨_, _, .func _, _⟩ => true
  | _ => false
theorem dat_of (X : K.In h) {f : Addr} (e : isFnIn K f = true) : ∃ o, h.get? f = some o ∧ o.data = .func (datIn K f) := by
  unfold isFnIn at e
  split at e
  · rename_i c dd d sl q
    refine ⟨_, X _ _ q, ?_⟩
    unfold datIn
    rw [q]
  · cases e
noncomputable def dvIn (K : Frag) (f : Addr) : Option (List Value) := match (datIn K f).defaults with
  | .none => some []
  | .ref T => (match K.lookup T with
      | some ⟨_, _, .seq vs _, _⟩ => if vs.toList = [] then none else some vs.toList
      | _ => none)
  | _ => none
theorem fnIs_of (X : K.In h) {i : Nat} {f : Addr} {dV : List Value} (e1 : isFnIn K f = true)
    (e2 : datIn K f = fnOf (fname i) (fname i) (fparams i) (fbody i) (fscope i) (datIn K f).defaults (datIn K f).kwdefaults (datIn K f).doc (datIn K f).pyModule (datIn K f).annotations (datIn K f).code (datIn K f).closureTuple)
    (e3 : codeIn K (datIn K f).code (fname i) = true) (e4 : dvIn K f = some dV) : FnIs h i f dV := by
  obtain ⟨o, ho, hd⟩ := dat_of X e1
  refine ⟨o, _, _, _, _, _, _, _, ho, hd.trans (congrArg Data.func e2), codeRec_of X e3, fun q => ?_, fun q => ?_⟩
  · subst q
    unfold dvIn at e4
    split at e4
    · assumption
    · split at e4
      · split at e4
        · cases e4
        · rename_i hne
          exact absurd (Option.some.inj e4) hne
      · cases e4
    · cases e4
  · unfold dvIn at e4
    split at e4
    · exact absurd (Option.some.inj e4).symm q
    · rename_i T hT
      split at e4
      · rename_i c dd vs n sl hq
        split at e4
        · cases e4
        · have e5 := Option.some.inj e4
          exact ⟨T, _, n, hT, X _ _ hq, by rw [← e5]⟩
      · cases e4
    · cases e4
noncomputable def seqIn (K : Frag) (a : Addr) : Array Value := match K.lookup a with
  | some ⟨_, _, .seq vs _, _⟩ => vs
  | _ => #[]
noncomputable def isListIn (K : Frag) (a : Addr) : Bool := match K.lookup a with
  | some ⟨.type n, _, .seq _ _, _⟩ => n == "list"
  | _ => false
theorem list_of (X : K.In h) {a : Addr} (e : isListIn K a = true) : h.IsList a (seqIn K a) := by
  unfold isListIn at e
  split at e
  · rename_i n dd vs z sl q
    refine ⟨_, X _ _ q, ?_, z, ?_⟩
    · rw [beq_iff_eq.mp e]
    · unfold seqIn; rw [q]
  · cases e
noncomputable def tabB (vs : List Value) (f : Nat → T) : Nat → Bool := fun c => match vs with
  | [] => c == 256
  | .str x _ :: r => x == mkS (f c) && tabB r f (c + 1)
  | _ :: _ => false
theorem tabB_spec {f : Nat → T} : ∀ (vs : List Value) (c : Nat), tabB vs f c = true → ∀ j, c + j < 256 → ∃ t, vs[j]? = some (.str (mkS (f (c + j))) t)
  | [], c, e, j, hj => by simp [tabB] at e; (first | lia | omega)
  | v :: r, c, e, j, hj => by
    unfold tabB at e
    split at e
    · rename_i q; cases q
    · rename_i x t r' q
      cases q
      simp only [Bool.and_eq_true, beq_iff_eq] at e
      cases j with
      | zero => exact ⟨t, by simp [e.1]⟩
      | succ j =>
        obtain ⟨t', h'⟩ := tabB_spec r (c + 1) e.2 j (by (first | lia | omega))
        exact ⟨t', by simpa [Nat.add_assoc, Nat.add_comm 1 j] using h'⟩
    · cases e
theorem tab_of (X : K.In h) {a : Addr} {f : Nat → T} (e1 : isListIn K a = true) (e2 : tabB (seqIn K a).toList f 0 = true) : TabIs h a f :=
  ⟨_, list_of X e1, fun c hc => by
    obtain ⟨t, q⟩ := tabB_spec _ 0 e2 c (by (first | lia | omega))
    rw [Nat.zero_add] at q
    exact ⟨t, by simpa using q⟩⟩
noncomputable def strIn (K : Frag) (n s : Str) : Bool := match nsIn K mainGlobals n with
  | some (some (.str x _)) => x == s
  | _ => false
theorem str_of (X : K.In h) (G : h.Ns mainGlobals mg) {n s : Str} (e : strIn K n s = true) : ∃ t, mg n = some (.str s t) := by
  unfold strIn at e
  split at e
  · rename_i x t q
    exact ⟨t, by rw [mg_of X G q, beq_iff_eq.mp e]⟩
  · cases e
noncomputable def freeIn (K : Frag) (n : Str) : Bool := match nsIn K mainGlobals n with
  | some none => true
  | _ => false
theorem free_of (X : K.In h) (G : h.Ns mainGlobals mg) {n : Str} (e : freeIn K n = true) : mg n = none := by
  unfold freeIn at e
  split at e
  · rename_i q; exact mg_none_of X G q
  · cases e
noncomputable def noneB (K : Frag) : Bool := match K.lookup cStatics with
  | some ⟨_, _, .dict es _, _⟩ => es.toList.all (fun e => match e.key with | .str _ _ => true | _ => false) && (nsFind es sharingNotToldKey).isNone
  | _ => false
theorem none_of (X : K.In h) (e : noneB K = true) : NoneBooked h := by
  unfold noneB at e
  split at e
  · rename_i c dd es n sl q
    simp only [Bool.and_eq_true, List.all_eq_true] at e
    refine ⟨nsFind es, ⟨_, es, n, X _ _ q, rfl, fun x hx => ?_, fun _ => rfl⟩, by simpa using e.2⟩
    have := e.1 x (by simpa using hx)
    split at this
    · rename_i a b hk; exact ⟨a, b, hk⟩
    · cases this
  · cases e
noncomputable def adU : Ad := { qmap := 17, bmap := 46, unquote := 37, quote := 44, enc := 57, dec := 65, floordiv := 72, mod := 79, mul := 86, concat := 93, getitem := 100, indexOf := 107, hint := 115, code := 122, note := 129, dealt := 134, refused := 141 }
noncomputable def encDv (dV : Option (List Value)) : Bool := match dV with
  | some [.int i _, .str x _] => i == 76 && x == Str.ofString "\n"
  | _ => false
noncomputable def decDv (dV : Option (List Value)) : Bool := match dV with
  | some [.str x _] => x == Str.ofString "\n"
  | _ => false
noncomputable def hintDv (dV : Option (List Value)) : Bool := match dV with
  | some [.int i _] => i == 0
  | _ => false
theorem encDv_of {dV : Option (List Value)} (e : encDv dV = true) : ∃ t u, dV = some [.int 76 t, .str (Str.ofString "\n") u] := by
  unfold encDv at e
  split at e
  · simp only [Bool.and_eq_true, beq_iff_eq] at e
    exact ⟨_, _, by rw [e.1, e.2]⟩
  · cases e
theorem decDv_of {dV : Option (List Value)} (e : decDv dV = true) : ∃ u, dV = some [.str (Str.ofString "\n") u] := by
  unfold decDv at e
  split at e
  · simp only [beq_iff_eq] at e
    exact ⟨_, by rw [e]⟩
  · cases e
theorem hintDv_of {dV : Option (List Value)} (e : hintDv dV = true) : ∃ u, dV = some [.int 0 u] := by
  unfold hintDv at e
  split at e
  · simp only [beq_iff_eq] at e
    exact ⟨_, by rw [e]⟩
  · cases e
/-- what is asked of the written part -/
structure FragOk (K : Frag) : Prop where
  free : biNames.all (freeIn K) = true
  crlf : strIn K (Str.ofString "CRLF") (Str.ofString "\r\n") = true
  hexd : strIn K (Str.ofString "hexdigits") (Str.ofString "0123456789abcdefABCDEF") = true
  nqmap : nsIn K mainGlobals (Str.ofString "_QUOPRI_MAP") = some (some (.ref 17))
  qmap1 : isListIn K 17 = true
  qmap2 : tabB (seqIn K 17).toList esc 0 = true
  nbmap : nsIn K mainGlobals (Str.ofString "_QUOPRI_BODY_ENCODE_MAP") = some (some (.ref 46))
  bmap1 : isListIn K 46 = true
  bmap2 : tabB (seqIn K 46).toList bm 0 = true
  names : ∀ p ∈ [(Str.ofString "unquote", 37), (Str.ofString "quote", 44), (Str.ofString "body_encode", 57), (Str.ofString "decode", 65), (Str.ofString "floordiv", 72), (Str.ofString "mod", 79), (Str.ofString "mul", 86), (Str.ofString "concat", 93), (Str.ofString "getitem", 100), (Str.ofString "indexOf", 107), (Str.ofString "length_hint", 115), (Str.ofString "_law_code", 122), (Str.ofString "_law_note", 129), (Str.ofString "_law_dealt", 134), (Str.ofString "_law_refused", 141)], nsIn K mainGlobals p.1 = some (some (.ref p.2))
  fns : ∀ p ∈ [(14, 37), (15, 44), (19, 57), (20, 65), (22, 72), (23, 79), (24, 86), (25, 93), (26, 100), (27, 107), (28, 115), (30, 122), (31, 129), (32, 134), (33, 141), (34, 146)], isFnIn K p.2 = true ∧ datIn K p.2 = fnOf (fname p.1) (fname p.1) (fparams p.1) (fbody p.1) (fscope p.1) (datIn K p.2).defaults (datIn K p.2).kwdefaults (datIn K p.2).doc (datIn K p.2).pyModule (datIn K p.2).annotations (datIn K p.2).code (datIn K p.2).closureTuple ∧ codeIn K (datIn K p.2).code (fname p.1) = true
  dv0 : ∀ f ∈ [37, 44, 72, 79, 86, 93, 100, 107, 122, 129, 134, 141, 146], dvIn K f = some []
  dvE : encDv (dvIn K 57) = true
  dvD : decDv (dvIn K 65) = true
  dvH : hintDv (dvIn K 115) = true
  none : noneB K = true
theorem glb_of (O : FragOk K) (X : K.In h) (gg : h.Ns mainGlobals mg) (bb : h.Ns builtinsNs mb) (bi : ∀ x : Str, x ≠ "__name__" → mb x = bootBuiltins x) (nl : h.NoLimit) : Glb adU mg mb h ∧ FnIs h 34 146 [] ∧ NoneBooked h := by
  have nm := fun (j : Nat) (p : Str × Addr) (hp : ([(Str.ofString "unquote", 37), (Str.ofString "quote", 44), (Str.ofString "body_encode", 57), (Str.ofString "decode", 65), (Str.ofString "floordiv", 72), (Str.ofString "mod", 79), (Str.ofString "mul", 86), (Str.ofString "concat", 93), (Str.ofString "getitem", 100), (Str.ofString "indexOf", 107), (Str.ofString "length_hint", 115), (Str.ofString "_law_code", 122), (Str.ofString "_law_note", 129), (Str.ofString "_law_dealt", 134), (Str.ofString "_law_refused", 141)] : List (Str × Addr))[j]? = some p) => mg_of X gg (O.names p (List.mem_of_getElem? hp))
  have fn := fun (j : Nat) (p : Nat × Addr) (hp : ([(14, 37), (15, 44), (19, 57), (20, 65), (22, 72), (23, 79), (24, 86), (25, 93), (26, 100), (27, 107), (28, 115), (30, 122), (31, 129), (32, 134), (33, 141), (34, 146)] : List (Nat × Addr))[j]? = some p) (dV : List Value) (e : dvIn K p.2 = some dV) => fnIs_of (dV := dV) X (O.fns p (List.mem_of_getElem? hp)).1 (O.fns p (List.mem_of_getElem? hp)).2.1 (O.fns p (List.mem_of_getElem? hp)).2.2 e
  obtain ⟨te, ue, hE⟩ := encDv_of O.dvE
  obtain ⟨ud, hDd⟩ := decDv_of O.dvD
  obtain ⟨uh, hH⟩ := hintDv_of O.dvH
  refine ⟨⟨gg, bb, bi, nl, fun x hx => free_of X gg (List.all_eq_true.mp O.free x hx), str_of X gg O.crlf, str_of X gg O.hexd, mg_of X gg O.nqmap, tab_of X O.qmap1 O.qmap2, mg_of X gg O.nbmap, tab_of X O.bmap1 O.bmap2,
    nm 0 _ rfl, fn 0 _ rfl [] (O.dv0 37 (by simp)), nm 1 _ rfl, fn 1 _ rfl [] (O.dv0 44 (by simp)), nm 2 _ rfl, ⟨te, ue, fn 2 _ rfl _ hE⟩, nm 3 _ rfl, ⟨ud, fn 3 _ rfl _ hDd⟩,
    nm 4 _ rfl, fn 4 _ rfl [] (O.dv0 72 (by simp)), nm 5 _ rfl, fn 5 _ rfl [] (O.dv0 79 (by simp)), nm 6 _ rfl, fn 6 _ rfl [] (O.dv0 86 (by simp)), nm 7 _ rfl, fn 7 _ rfl [] (O.dv0 93 (by simp)),
    nm 8 _ rfl, fn 8 _ rfl [] (O.dv0 100 (by simp)), nm 9 _ rfl, fn 9 _ rfl [] (O.dv0 107 (by simp)), nm 10 _ rfl, ⟨uh, fn 10 _ rfl _ hH⟩, nm 11 _ rfl, fn 11 _ rfl [] (O.dv0 122 (by simp)),
    nm 12 _ rfl, fn 12 _ rfl [] (O.dv0 129 (by simp)), nm 13 _ rfl, fn 13 _ rfl [] (O.dv0 134 (by simp)), nm 14 _ rfl, fn 14 _ rfl [] (O.dv0 141 (by simp))⟩, fn 15 _ rfl [] (O.dv0 146 (by simp)), none_of X O.none⟩
end
end Ku
end
section
open PySem PySem.W PyProof.Rows
namespace Ku
theorem frag_ok (P : Params) : FragOk (frag P) where
  free := by kernel_rfl
  crlf := by kernel_rfl
  hexd := by kernel_rfl
  nqmap := by kernel_rfl
  qmap1 := by kernel_rfl
  qmap2 := by kernel_rfl
  nbmap := by kernel_rfl
  bmap1 := by kernel_rfl
  bmap2 := by kernel_rfl
  names := by
    intro p hp
    simp only [List.mem_cons, List.mem_nil_iff, or_false] at hp
    rcases hp with rfl | rfl | rfl | rfl | rfl | rfl | rfl | rfl | rfl | rfl | rfl | rfl | rfl | rfl | rfl <;> kernel_rfl
  fns := by
    intro p hp
    simp only [List.mem_cons, List.mem_nil_iff, or_false] at hp
    rcases hp with rfl | rfl | rfl | rfl | rfl | rfl | rfl | rfl | rfl | rfl | rfl | rfl | rfl | rfl | rfl | rfl <;> exact ⟨by kernel_rfl, by kernel_rfl, by kernel_rfl⟩
  dv0 := by
    intro p hp
    simp only [List.mem_cons, List.mem_nil_iff, or_false] at hp
    rcases hp with rfl | rfl | rfl | rfl | rfl | rfl | rfl | rfl | rfl | rfl | rfl | rfl | rfl <;> kernel_rfl
  dvE := by kernel_rfl
  dvD := by kernel_rfl
  dvH := by kernel_rfl
  none := by kernel_rfl
end Ku
end
theorem PySem.Challenge.cw_ku0008_01_holds : PySem.Challenge.rw_ku0008_01.Holds := by
  refine Ku.hd ?_
  intro w s₀ s₁ mg mb G Y fa o pm cd doc dV kV ho hd hcd hD hmg hg args vals as hpre hlay hrd hwl hlo
  have KX := kIn_of Y
  have T := topRead_of G.T
  wrow_args hpre hlay hrd hwl hlo
  rename_i ns hs1 hl0 hL1 hr1 hl2 as1 as2 R vs as3 hL ra hw1 hr0 hI hr2 hlen _
  obtain ⟨GG, HF, HN⟩ := Ku.glb_of (Ku.frag_ok w.params) KX T.g T.b T.builtins T.nolimit
  have hfa : fa = 146 := by
    have e1 : mg (Str.ofString "law") = some (.ref fa) := hmg
    have e2 := mg_of (n := Str.ofString "law") (v := .ref 146) KX T.g (by kernel_rfl)
    rw [e1] at e2
    injection e2 with e3
    injection e3
  subst hfa
  have hvl : vs.length ≤ 100 := by
    have := hI.length
    omega
  show wpAny _ _ (call (.ref 146) [.ref R]) _ _ (Ku.S s₁ s₁.heap s₁.toks)
  refine wpAny_mono (Ku.c_law (E := fun _ _ => False) (Q := fun v s' => v = .bool true ∧ ∃ h' k', s' = Ku.S s₁ h' k' ∧ Ku.Ext s₁.heap h') GG HN HF hL hI hvl fun h' k' x => ⟨rfl, h', k', rfl, x⟩) (fun v s' q => ?_) (fun e s' q => q.elim)
  obtain ⟨rfl, h', k', rfl, x⟩ := q
  refine GoodW.toG ⟨.inl ⟨_, WData.bool true, [], rfl, ?_, ?_, ?_, ?_⟩, x, rfl, hg⟩
  · intro cls; rfl
  · constructor
  · wrow_post
  · exact fun _ => ⟨List.nodup_nil, fun a h => nomatch h⟩
