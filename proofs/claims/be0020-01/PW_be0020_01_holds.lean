import PyProof.Rows.All
import Wide.All
import OpenK.AllK
import Wide.FinOn
import Lean
import PySem.Challenge.RW_be0020_01
open PySem PySem.W PySem.Calls PyProof.Rows
set_option Elab.async false
set_option maxRecDepth 100000
set_option maxHeartbeats 8000000
namespace Mine
section
open PySem.StrLaws PySem.Builtin PySem.Builtin.Str
/-- where a pattern is met, greedily, in what is left of a text -/
inductive Cut (p : List Nat) : Nat → List Nat → List Nat → Prop
  | nil (i : Nat) : Cut p i [] []
  | hit {i : Nat} {r cs : List Nat} : Cut p (i + p.length) r cs → Cut p i (p ++ r) (i :: cs)
  | miss {i c : Nat} {r cs : List Nat} : (c :: r).take p.length ≠ p → Cut p (i + 1) r cs → Cut p i (c :: r) cs
inductive Rep (p z : List Nat) : List Nat → List Nat → Prop
  | nil : Rep p z [] []
  | hit {r o : List Nat} : Rep p z r o → Rep p z (p ++ r) (z ++ o)
  | miss {c : Nat} {r o : List Nat} : (c :: r).take p.length ≠ p → Rep p z r o → Rep p z (c :: r) (c :: o)
theorem cut_of_nil {p : List Nat} (hp : p ≠ []) {i : Nat} {l cs : List Nat} (h : Cut p i l cs) (hl : l = []) : cs = [] := by
  cases h with
  | nil => rfl
  | hit h' => exact absurd (List.append_eq_nil_iff.mp hl).1 hp
  | miss _ _ => exact absurd hl (by simp)
theorem str_len (x : Str) : x.cps.toList.length = x.length := Array.length_toList
theorem cut_loop (x y : Str) (lim : Nat) (hy : 0 < y.length) (hlim : x.length < lim) : ∀ (k i : Nat) (st : Array Nat × Nat), i + k = x.length + 1 → st.1.size ≤ st.2 → st.2 ≤ x.length →
    ∃ cs, Cut y.cps.toList (max i st.2) (x.cps.toList.drop (max i st.2)) cs ∧ (forIn (List.range' i k) st (occBody x y x.length lim)).run.1.toList = st.1.toList ++ cs := by
  have hy0 : y.cps.toList ≠ [] := fun h => by rw [← str_len, h] at hy; exact absurd hy (Nat.lt_irrefl _)
  intro k
  induction k with
  | zero =>
    intro i st hi h1 h2
    refine ⟨[], ?_, ?_⟩
    · rw [List.drop_eq_nil_of_le (by rw [str_len]; omega)]
      exact .nil _
    · simp
  | succ k ih =>
    intro i st hi h1 h2
    rw [List.range'_succ, List.forIn_cons]
    by_cases hc : ((st.fst.size < lim ∧ st.snd ≤ i) ∧ i + y.length ≤ x.length) ∧ subAt x y i = true
    · have hb : occBody x y x.length lim i st = pure (ForInStep.yield (st.fst.push i, i + y.length)) := if_pos hc
      rw [hb]
      obtain ⟨cs, hcs, he⟩ := ih (i + 1) (st.fst.push i, i + y.length) (by omega) (by simp; omega) hc.1.2
      refine ⟨i :: cs, ?_, ?_⟩
      · have e1 : max (i + 1) (i + y.length) = i + y.length := by omega
        have e2 : max i st.2 = i := by omega
        dsimp only at hcs
        rw [e1] at hcs
        rw [e2]
        have h3 := hc.2
        rw [subAt_eq] at h3
        have h4 := eq_of_beq h3
        have h5 : x.cps.toList.drop i = y.cps.toList ++ x.cps.toList.drop (i + y.length) := by
          rw [← List.drop_drop, ← h4, List.take_append_drop]
        rw [h5]
        refine .hit ?_
        rw [str_len]
        exact hcs
      · refine he.trans ?_
        simp
    · have hb : occBody x y x.length lim i st = pure (ForInStep.yield (st.fst, st.snd)) := if_neg hc
      rw [hb]
      obtain ⟨cs, hcs, he⟩ := ih (i + 1) st (by omega) h1 h2
      refine ⟨cs, ?_, he⟩
      by_cases hs : st.2 ≤ i
      · have e1 : max (i + 1) st.2 = i + 1 := by omega
        have e2 : max i st.2 = i := by omega
        rw [e1] at hcs
        rw [e2]
        by_cases hi' : i < x.length
        · have h5 : x.cps.toList.drop i = x.cps.toList[i]'(by rw [str_len]; exact hi') :: x.cps.toList.drop (i + 1) := List.drop_eq_getElem_cons _
          rw [h5]
          refine .miss ?_ hcs
          rw [← h5, str_len]
          intro h6
          refine hc ⟨⟨⟨by omega, hs⟩, ?_⟩, ?_⟩
          · have h7 : ((x.cps.toList.drop i).take y.length).length = y.length := by rw [h6, str_len]
            rw [List.length_take, List.length_drop, str_len] at h7
            omega
          · rw [subAt_eq, h6]
            exact beq_self_eq_true _
        · have h5 : x.cps.toList.drop i = [] := List.drop_eq_nil_of_le (by rw [str_len]; omega)
          have h6 : x.cps.toList.drop (i + 1) = [] := List.drop_eq_nil_of_le (by rw [str_len]; omega)
          rw [cut_of_nil hy0 hcs h6, h5]
          exact .nil _
      · have e1 : max (i + 1) st.2 = st.2 := by omega
        have e2 : max i st.2 = st.2 := by omega
        rw [e1] at hcs
        rw [e2]
        exact hcs
theorem cut_occ (x y : Str) (hy : 0 < y.length) : Cut y.cps.toList 0 x.cps.toList (occurrences x y 0 x.length (x.length + 1)) := by
  obtain ⟨cs, h1, h2⟩ := cut_loop x y (x.length + 1) hy (by omega) (x.length + 1) 0 (#[], 0) (by omega) (by simp) (by simp)
  rw [occ_eq]
  have e : (forIn (List.range' 0 (x.length + 1 - 0)) ((#[] : Array Nat), 0) (occBody x y x.length (x.length + 1))).run.1.toList = cs := by
    refine Eq.trans ?_ h2
    rfl
  rw [e]
  exact h1
theorem rep_of_none {p z : List Nat} {i : Nat} {l cs : List Nat} (h : Cut p i l cs) (hc : cs = []) : Rep p z l l := by
  induction h with
  | nil => exact .nil
  | hit _ _ => cases hc
  | miss h1 _ ih => exact .miss h1 (ih hc)
theorem take_tail {α : Type} {l r : List α} {a i : Nat} {c : α} (h : c :: r = l.drop i) (ha : a ≤ i) : (l.drop a).take (i + 1 - a) = (l.drop a).take (i - a) ++ [c] := by
  have e : i + 1 - a = (i - a) + 1 := by omega
  rw [e, List.take_add_one, List.getElem?_drop]
  have e2 : a + (i - a) = i := by omega
  rw [e2]
  have h3 : (l.drop i)[0]? = some c := by rw [← h]; rfl
  rw [List.getElem?_drop] at h3
  rw [show i + 0 = i from rfl] at h3
  rw [h3]
  rfl
theorem cut_join (x z : Str) {p : List Nat} {i : Nat} {l cs : List Nat} (h : Cut p i l cs) : l = x.cps.toList.drop i → ∀ a, a ≤ i →
    ∃ o, (Str.join z (partsFrom x p.length a cs)).cps.toList = (x.cps.toList.drop a).take (i - a) ++ o ∧ Rep p z.cps.toList l o := by
  induction h with
  | nil i =>
    intro hl a ha
    refine ⟨[], ?_, .nil⟩
    have h1 : x.length ≤ i := by
      have h2 : (x.cps.toList.drop i).length = 0 := by rw [← hl]; rfl
      rw [List.length_drop, str_len] at h2
      omega
    show (strSub x a x.length).cps.toList = _
    rw [strSub_toList, List.append_nil, List.take_of_length_le (by rw [List.length_drop, str_len]; omega), List.take_of_length_le (by rw [List.length_drop, str_len]; omega)]
  | @hit i r cs h' ih =>
    intro hl a ha
    have h1 : r = x.cps.toList.drop (i + p.length) := by
      rw [← List.drop_drop, ← hl, List.drop_left]
    obtain ⟨o, h2, h3⟩ := ih h1 (i + p.length) (Nat.le_refl _)
    refine ⟨z.cps.toList ++ o, ?_, .hit h3⟩
    obtain ⟨q, t, e⟩ := partsFrom_ne x p.length (i + p.length) cs
    show (Str.join z (strSub x a i :: partsFrom x p.length (i + p.length) cs)).cps.toList = _
    rw [e] at h2 ⊢
    show (strSub x a i ++ z ++ Str.join z (q :: t)).cps.toList = _
    rw [Str.cps_append, Str.cps_append, Array.toList_append, Array.toList_append, h2, strSub_toList, Nat.sub_self, List.take_zero, List.nil_append, List.append_assoc]
  | @miss i c r cs hm h' ih =>
    intro hl a ha
    have h1 : r = x.cps.toList.drop (i + 1) := by
      rw [← List.drop_drop, ← hl]
      rfl
    obtain ⟨o, h2, h3⟩ := ih h1 a (by omega)
    refine ⟨c :: o, ?_, .miss hm h3⟩
    rw [h2, take_tail hl ha, List.append_assoc]
    rfl
theorem rep_replace (x y z : Str) (hy : 0 < y.length) : Rep y.cps.toList z.cps.toList x.cps.toList (Txt.replace x y z).cps.toList := by
  have h := cut_occ x y hy
  unfold Txt.replace
  have h0 : (y.length == 0) = false := beq_eq_false_iff_ne.mpr (by omega)
  rw [h0, Bool.false_and, Bool.or_false]
  cases he : (occurrences x y 0 x.length (x.length + 1)).isEmpty
  · rw [if_neg Bool.false_ne_true, glued_eq_join, partsBetween_eq]
    obtain ⟨o, h1, h2⟩ := cut_join x z h rfl 0 (Nat.le_refl _)
    rw [str_len] at h1
    rw [h1]
    exact h2
  · rw [if_pos rfl]
    exact rep_of_none h (List.isEmpty_iff.mp he)
def rep1 (a : Nat) (z : List Nat) (l : List Nat) : List Nat := l.flatMap fun c => if c = a then z else [c]
def rep2 (a b : Nat) (z : List Nat) : List Nat → List Nat
  | [] => []
  | [c] => [c]
  | c :: d :: r => if c = a ∧ d = b then z ++ rep2 a b z r else c :: rep2 a b z (d :: r)
theorem rep_one {a : Nat} {z l o : List Nat} (h : Rep [a] z l o) : o = rep1 a z l := by
  induction h with
  | nil => rfl
  | hit _ ih =>
    rw [ih]
    unfold rep1
    rw [List.cons_append, List.flatMap_cons, if_pos rfl]
    rfl
  | @miss c r o h1 _ ih =>
    rw [ih]
    unfold rep1
    rw [List.flatMap_cons, if_neg (fun e => h1 (by rw [e]; rfl))]
    rfl
theorem rep2_plain {a b : Nat} {z : List Nat} {c : Nat} {t : List Nat} (h : c = a → t.head? ≠ some b) : rep2 a b z (c :: t) = c :: rep2 a b z t := by
  cases t with
  | nil => rfl
  | cons d r =>
    rw [rep2, if_neg]
    rintro ⟨h1, h2⟩
    exact h h1 (by rw [h2]; rfl)
theorem rep2_hit {a b : Nat} {z r : List Nat} : rep2 a b z (a :: b :: r) = z ++ rep2 a b z r := by
  rw [rep2, if_pos ⟨rfl, rfl⟩]
theorem rep_two {a b : Nat} {z l o : List Nat} (h : Rep [a, b] z l o) : o = rep2 a b z l := by
  induction h with
  | nil => rfl
  | hit _ ih => rw [ih]; exact rep2_hit.symm
  | @miss c r o h1 _ ih =>
    rw [ih, rep2_plain]
    intro e h2
    apply h1
    cases r with
    | nil => cases h2
    | cons d r =>
      simp at h2
      rw [e, h2]
      rfl
theorem repl_one (x : Str) {y z : Str} {a : Nat} {zl : List Nat} (hy : y.cps.toList = [a]) (hz : z.cps.toList = zl) : (Txt.replace x y z).cps.toList = rep1 a zl x.cps.toList := by
  have h := rep_replace x y z (by rw [← str_len, hy]; exact Nat.one_pos)
  rw [hy, hz] at h
  exact rep_one h
theorem repl_two (x : Str) {y z : Str} {a b : Nat} {zl : List Nat} (hy : y.cps.toList = [a, b]) (hz : z.cps.toList = zl) : (Txt.replace x y z).cps.toList = rep2 a b zl x.cps.toList := by
  have h := rep_replace x y z (by rw [← str_len, hy]; exact Nat.two_pos)
  rw [hy, hz] at h
  exact rep_two h
end
/-- the program of the law -/
noncomputable abbrev pE : Program := (OpenRow.toRowW (OpenLaw.row PySem.Challenge.rw_be0020_01)).1
noncomputable def kids : Stmt → List Stmt
  | .ClassDef _ _ _ b _ _ _ _ _ _ _ => b
  | .FunctionDef _ _ b _ _ _ _ _ _ _ => b
  | _ => []
noncomputable def stAt : List Nat → List Stmt → Option Stmt
  | [], _ => none
  | [i], l => l[i]?
  | i :: r, l => match l[i]? with
    | some s => stAt r (kids s)
    | none => none
noncomputable def fb (p : List Nat) : List Stmt := match stAt p pE.main.body with
  | some (.FunctionDef _ _ b _ _ _ _ _ _ _) => b
  | _ => []
noncomputable def fa (p : List Nat) : Arguments := match stAt p pE.main.body with
  | some (.FunctionDef _ a _ _ _ _ _ _ _ _) => a
  | _ => ⟨[], [], none, [], [], none, []⟩
noncomputable def fs (p : List Nat) : PySem.Scope := match stAt p pE.main.body with
  | some (.FunctionDef _ _ _ _ _ _ s _ _ _) => s
  | _ => { kind := .function, names := [], isGenerator := false, isCoroutine := false }
noncomputable def hd.heap_39 : Params → Frag := fun P =>
  (nat_lit 2, { cls := Value.none, data := Data.dict #[{ hash := PyData.keyHash P (Str.ofString "\x69mport.loaded._sre"), key := Value.str (Str.ofString "\x69mport.loaded._sre") 183, val := Value.bool true }, { hash := PyData.keyHash P (Str.ofString "class._frozen_importlib.BuiltinImporter"), key := Value.str (Str.ofString "class._frozen_importlib.BuiltinImporter") 185, val := Value.ref 14 }, { hash := PyData.keyHash P (Str.ofString "watched.\x69mport"), key := Value.str (Str.ofString "watched.\x69mport") 206, val := Value.ref 18 }, { hash := PyData.keyHash P (Str.ofString "class._frozen_importlib.ModuleSpec"), key := Value.str (Str.ofString "class._frozen_importlib.ModuleSpec") 216, val := Value.ref 22 }, { hash := PyData.keyHash P (Str.ofString "sys.modules.booked-epoch"), key := Value.str (Str.ofString "sys.modules.booked-epoch") 245, val := Value.int 3 0 }, { hash := PyData.keyHash P (Str.ofString "\x69mport.later-laid._sre"), key := Value.str (Str.ofString "\x69mport.later-laid._sre") 270, val := Value.bool true }, { hash := PyData.keyHash P (Str.ofString "watched.library"), key := Value.str (Str.ofString "watched.library") 272, val := Value.ref 27 }, { hash := PyData.keyHash P (Str.ofString "watched.library-objects"), key := Value.str (Str.ofString "watched.library-objects") 0, val := Value.str (Str.ofString "\x0c") 0 }, { hash := PyData.keyHash P (Str.ofString "watched.library-deep._sre"), key := Value.str (Str.ofString "watched.library-deep._sre") 273, val := Value.str (Str.ofString "\x04\x00\x00\x0b\x04\x00\x00\x0b\x04\x00\x00\x03\x04\x00\x00\x0b\x08\x04dict\x02") 0 }, { hash := PyData.keyHash P (Str.ofString "type.__subclasses__.str.0"), key := Value.str (Str.ofString "type.__subclasses__.str.0") 890, val := Value.int 335 0 }, { hash := PyData.keyHash P (Str.ofString "type.__subclasses__.str.n"), key := Value.str (Str.ofString "type.__subclasses__.str.n") 891, val := Value.int 1 0 }] 11 }) ::
  (nat_lit 3, { cls := Value.type "dict", data := Data.dict #[{ hash := PyData.keyHash P (Str.ofString "__name__"), key := Value.str (Str.ofString "__name__") 165, val := Value.str (Str.ofString "law_be0020_01") 894 }, { hash := PyData.keyHash P (Str.ofString "__doc__"), key := Value.str (Str.ofString "__doc__") 166, val := Value.none }, { hash := PyData.keyHash P (Str.ofString "__package__"), key := Value.str (Str.ofString "__package__") 167, val := Value.none }, { hash := PyData.keyHash P (Str.ofString "__loader__"), key := Value.str (Str.ofString "__loader__") 168, val := Value.builtin "__main__.__loader__#opaque" }, { hash := PyData.keyHash P (Str.ofString "__spec__"), key := Value.str (Str.ofString "__spec__") 169, val := Value.none }, { hash := PyData.keyHash P (Str.ofString "__annotations__"), key := Value.str (Str.ofString "__annotations__") 170, val := Value.ref 6 }, { hash := PyData.keyHash P (Str.ofString "__builtins__"), key := Value.str (Str.ofString "__builtins__") 171, val := Value.ref 4 }, { hash := PyData.keyHash P (Str.ofString "__file__"), key := Value.str (Str.ofString "__file__") 173, val := Value.str (Str.ofString "/claim/cut.py") 172 }, { hash := PyData.keyHash P (Str.ofString "__cached__"), key := Value.str (Str.ofString "__cached__") 174, val := Value.none }, { hash := PyData.keyHash P (Str.ofString "_sre"), key := Value.str (Str.ofString "_sre") 275, val := Value.ref 12 }, { hash := PyData.keyHash P (Str.ofString "_wall"), key := Value.str (Str.ofString "_wall") 288, val := Value.ref 38 }, { hash := PyData.keyHash P (Str.ofString "SEQUENCE_TYPES"), key := Value.str (Str.ofString "SEQUENCE_TYPES") 291, val := Value.ref 39 }, { hash := PyData.keyHash P (Str.ofString "DEFAULT_ENCODING"), key := Value.str (Str.ofString "DEFAULT_ENCODING") 293, val := Value.str (Str.ofString "utf-8") 292 }, { hash := PyData.keyHash P (Str.ofString "to_unicode"), key := Value.str (Str.ofString "to_unicode") 302, val := Value.ref 47 }, { hash := PyData.keyHash P (Str.ofString "_escape_char"), key := Value.str (Str.ofString "_escape_char") 311, val := Value.ref 54 }, { hash := PyData.keyHash P (Str.ofString "_unescape_char"), key := Value.str (Str.ofString "_unescape_char") 318, val := Value.ref 61 }, { hash := PyData.keyHash P (Str.ofString "unescape_backslash"), key := Value.str (Str.ofString "unescape_backslash") 329, val := Value.ref 68 }, { hash := PyData.keyHash P (Str.ofString "CaselessDict"), key := Value.str (Str.ofString "CaselessDict") 489, val := Value.ref 195 }, { hash := PyData.keyHash P (Str.ofString "param_value"), key := Value.str (Str.ofString "param_value") 497, val := Value.ref 205 }, { hash := PyData.keyHash P (Str.ofString "QUOTABLE"), key := Value.str (Str.ofString "QUOTABLE") 693, val := Value.ref 210 }, { hash := PyData.keyHash P (Str.ofString "dquote"), key := Value.str (Str.ofString "dquote") 701, val := Value.ref 218 }, { hash := PyData.keyHash P (Str.ofString "q_join"), key := Value.str (Str.ofString "q_join") 712, val := Value.ref 226 }, { hash := PyData.keyHash P (Str.ofString "Parameters"), key := Value.str (Str.ofString "Parameters") 803, val := Value.ref 279 }, { hash := PyData.keyHash P (Str.ofString "rfc_6868_escape"), key := Value.str (Str.ofString "rfc_6868_escape") 813, val := Value.ref 288 }, { hash := PyData.keyHash P (Str.ofString "vText"), key := Value.str (Str.ofString "vText") 893, val := Value.ref 335 }, { hash := PyData.keyHash P (Str.ofString "_law_bag"), key := Value.str (Str.ofString "_law_bag") 904, val := Value.ref 347 }, { hash := PyData.keyHash P (Str.ofString "_law_draw"), key := Value.str (Str.ofString "_law_draw") 913, val := Value.ref 354 }, { hash := PyData.keyHash P (Str.ofString "_law_text"), key := Value.str (Str.ofString "_law_text") 923, val := Value.ref 361 }, { hash := PyData.keyHash P (Str.ofString "_law_plain"), key := Value.str (Str.ofString "_law_plain") 933, val := Value.ref 368 }, { hash := PyData.keyHash P (Str.ofString "law"), key := Value.str (Str.ofString "law") 939, val := Value.ref 373 }] 30 }) ::
  (nat_lit 32, { cls := Value.type "tuple", data := Data.seq #[] }) ::
  (nat_lit 34, { cls := Value.type "tuple", data := Data.seq #[Value.str (Str.ofString "k") 285] }) ::
  (nat_lit 35, { cls := Value.type "tuple", data := Data.seq #[] }) ::
  (nat_lit 37, { cls := Value.type "code", data := Data.fields #[Value.str (Str.ofString "_wall") 282, Value.str (Str.ofString "_wall") 283, Value.str (Str.ofString "/claim/cut.py") 284, Value.int 2 0, Value.int 1 0, Value.int 0 0, Value.int 0 0, Value.int 3 0, Value.ref 32, Value.bool true, Value.int 276 0, Value.ref 33, Value.none, Value.ref 34, Value.ref 35, Value.ref 36, Value.int 286 0, Value.int 2 0, Value.str (Str.ofString "/claim/cut.py") 287] }) ::
  (nat_lit 38, { cls := Value.type "function", data := Data.func { name := Str.ofString "_wall", qualname := Str.ofString "_wall", params := ((by exact fun x _ => x : ∀ x, fa [1] = x → Arguments) ⟨_, _, _, _, _, _, _⟩ rfl), body := FuncBody.stmts ((by exact fun x _ => x : ∀ x, fb [1] = x → List Stmt) (_ :: []) rfl), scope := ((by exact fun x _ => x : ∀ x, fs [1] = x → PySem.Scope) ⟨_, _, _, _, _⟩ rfl), globals := 3, closure := [], defaults := Value.none, kwdefaults := Value.none, pyModule := Value.str (Str.ofString "__main__") 164, code := Value.ref 37 } }) ::
  (nat_lit 39, { cls := Value.type "tuple", data := Data.seq #[Value.type "list", Value.type "tuple"] }) ::
  (nat_lit 40, { cls := Value.type "tuple", data := Data.seq #[Value.str (Str.ofString "utf-8-sig") 294] }) ::
  (nat_lit 41, { cls := Value.type "tuple", data := Data.seq #[] }) ::
  (nat_lit 43, { cls := Value.type "tuple", data := Data.seq #[Value.str (Str.ofString "value") 298, Value.str (Str.ofString "encoding") 299] }) ::
  (nat_lit 44, { cls := Value.type "tuple", data := Data.seq #[] }) ::
  (nat_lit 46, { cls := Value.type "code", data := Data.fields #[Value.str (Str.ofString "to_unicode") 295, Value.str (Str.ofString "to_unicode") 296, Value.str (Str.ofString "/claim/cut.py") 297, Value.int 8 0, Value.int 2 0, Value.int 0 0, Value.int 0 0, Value.int 3 0, Value.ref 41, Value.bool true, Value.int 276 0, Value.ref 42, Value.none, Value.ref 43, Value.ref 44, Value.ref 45, Value.int 300 0, Value.int 8 0, Value.str (Str.ofString "/claim/cut.py") 301] }) ::
  (nat_lit 47, { cls := Value.type "function", data := Data.func { name := Str.ofString "to_unicode", qualname := Str.ofString "to_unicode", params := ((by exact fun x _ => x : ∀ x, fa [5] = x → Arguments) ⟨_, _, _, _, _, _, _⟩ rfl), body := FuncBody.stmts ((by exact fun x _ => x : ∀ x, fb [5] = x → List Stmt) (_ :: _ :: []) rfl), scope := ((by exact fun x _ => x : ∀ x, fs [5] = x → PySem.Scope) ⟨_, _, _, _, _⟩ rfl), globals := 3, closure := [], defaults := Value.ref 40, kwdefaults := Value.none, pyModule := Value.str (Str.ofString "icalendar.parser_tools") 289, code := Value.ref 46 } }) ::
  (nat_lit 48, { cls := Value.type "tuple", data := Data.seq #[] }) ::
  (nat_lit 50, { cls := Value.type "tuple", data := Data.seq #[Value.str (Str.ofString "text") 308] }) ::
  (nat_lit 51, { cls := Value.type "tuple", data := Data.seq #[] }) ::
  (nat_lit 53, { cls := Value.type "code", data := Data.fields #[Value.str (Str.ofString "_escape_char") 305, Value.str (Str.ofString "_escape_char") 306, Value.str (Str.ofString "/claim/cut.py") 307, Value.int 16 0, Value.int 1 0, Value.int 0 0, Value.int 0 0, Value.int 3 0, Value.ref 48, Value.bool true, Value.int 276 0, Value.ref 49, Value.none, Value.ref 50, Value.ref 51, Value.ref 52, Value.int 309 0, Value.int 16 0, Value.str (Str.ofString "/claim/cut.py") 310] }) ::
  (nat_lit 54, { cls := Value.type "function", data := Data.func { name := Str.ofString "_escape_char", qualname := Str.ofString "_escape_char", params := ((by exact fun x _ => x : ∀ x, fa [7] = x → Arguments) ⟨_, _, _, _, _, _, _⟩ rfl), body := FuncBody.stmts ((by exact fun x _ => x : ∀ x, fb [7] = x → List Stmt) (_ :: _ :: _ :: []) rfl), scope := ((by exact fun x _ => x : ∀ x, fs [7] = x → PySem.Scope) ⟨_, _, _, _, _⟩ rfl), globals := 3, closure := [], defaults := Value.none, kwdefaults := Value.none, pyModule := Value.str (Str.ofString "icalendar.parser.string") 303, code := Value.ref 53 } }) ::
  (nat_lit 55, { cls := Value.type "tuple", data := Data.seq #[] }) ::
  (nat_lit 57, { cls := Value.type "tuple", data := Data.seq #[Value.str (Str.ofString "text") 315] }) ::
  (nat_lit 58, { cls := Value.type "tuple", data := Data.seq #[] }) ::
  (nat_lit 60, { cls := Value.type "code", data := Data.fields #[Value.str (Str.ofString "_unescape_char") 312, Value.str (Str.ofString "_unescape_char") 313, Value.str (Str.ofString "/claim/cut.py") 314, Value.int 20 0, Value.int 1 0, Value.int 0 0, Value.int 0 0, Value.int 3 0, Value.ref 55, Value.bool true, Value.int 276 0, Value.ref 56, Value.none, Value.ref 57, Value.ref 58, Value.ref 59, Value.int 316 0, Value.int 20 0, Value.str (Str.ofString "/claim/cut.py") 317] }) ::
  (nat_lit 61, { cls := Value.type "function", data := Data.func { name := Str.ofString "_unescape_char", qualname := Str.ofString "_unescape_char", params := ((by exact fun x _ => x : ∀ x, fa [8] = x → Arguments) ⟨_, _, _, _, _, _, _⟩ rfl), body := FuncBody.stmts ((by exact fun x _ => x : ∀ x, fb [8] = x → List Stmt) (_ :: _ :: _ :: _ :: []) rfl), scope := ((by exact fun x _ => x : ∀ x, fs [8] = x → PySem.Scope) ⟨_, _, _, _, _⟩ rfl), globals := 3, closure := [], defaults := Value.none, kwdefaults := Value.none, pyModule := Value.str (Str.ofString "icalendar.parser.string") 303, code := Value.ref 60 } }) ::
  (nat_lit 62, { cls := Value.type "tuple", data := Data.seq #[] }) ::
  (nat_lit 64, { cls := Value.type "tuple", data := Data.seq #[Value.str (Str.ofString "val") 324, Value.str (Str.ofString "result") 325, Value.str (Str.ofString "i") 326] }) ::
  (nat_lit 65, { cls := Value.type "tuple", data := Data.seq #[] }) ::
  (nat_lit 67, { cls := Value.type "code", data := Data.fields #[Value.str (Str.ofString "unescape_backslash") 321, Value.str (Str.ofString "unescape_backslash") 322, Value.str (Str.ofString "/claim/cut.py") 323, Value.int 28 0, Value.int 1 0, Value.int 0 0, Value.int 0 0, Value.int 3 0, Value.ref 62, Value.bool true, Value.int 276 0, Value.ref 63, Value.none, Value.ref 64, Value.ref 65, Value.ref 66, Value.int 327 0, Value.int 28 0, Value.str (Str.ofString "/claim/cut.py") 328] }) ::
  (nat_lit 68, { cls := Value.type "function", data := Data.func { name := Str.ofString "unescape_backslash", qualname := Str.ofString "unescape_backslash", params := ((by exact fun x _ => x : ∀ x, fa [10] = x → Arguments) ⟨_, _, _, _, _, _, _⟩ rfl), body := FuncBody.stmts ((by exact fun x _ => x : ∀ x, fb [10] = x → List Stmt) (_ :: _ :: _ :: _ :: []) rfl), scope := ((by exact fun x _ => x : ∀ x, fs [10] = x → PySem.Scope) ⟨_, _, _, _, _⟩ rfl), globals := 3, closure := [], defaults := Value.none, kwdefaults := Value.none, pyModule := Value.str (Str.ofString "icalendar.parser.property") 319, code := Value.ref 67 } }) ::
  (nat_lit 69, { cls := Value.type "tuple", data := Data.seq #[Value.type "dict"] }) ::
  (nat_lit 72, { cls := Value.type "cell", data := Data.cell (some (Value.ref 195)) }) ::
  (nat_lit 77, { cls := Value.type "tuple", data := Data.seq #[Value.ref 72] }) ::
  (nat_lit 78, { cls := Value.type "tuple", data := Data.seq #[Value.str (Str.ofString "__class__") 347] }) ::
  (nat_lit 80, { cls := Value.type "tuple", data := Data.seq #[Value.str (Str.ofString "self") 348, Value.str (Str.ofString "args") 349, Value.str (Str.ofString "kwargs") 350] }) ::
  (nat_lit 81, { cls := Value.type "tuple", data := Data.seq #[] }) ::
  (nat_lit 83, { cls := Value.type "code", data := Data.fields #[Value.str (Str.ofString "__init__") 344, Value.str (Str.ofString "CaselessDict.__init__") 345, Value.str (Str.ofString "/claim/cut.py") 346, Value.int 42 0, Value.int 1 0, Value.int 0 0, Value.int 0 0, Value.int 15 0, Value.ref 78, Value.bool true, Value.int 276 0, Value.ref 79, Value.none, Value.ref 80, Value.ref 81, Value.ref 82, Value.int 351 0, Value.int 42 0, Value.str (Str.ofString "/claim/cut.py") 352] }) ::
  (nat_lit 84, { cls := Value.type "function", data := Data.func { name := Str.ofString "__init__", qualname := Str.ofString "CaselessDict.__init__", params := ((by exact fun x _ => x : ∀ x, fa [12, 0] = x → Arguments) ⟨_, _, _, _, _, _, _⟩ rfl), body := FuncBody.stmts ((by exact fun x _ => x : ∀ x, fb [12, 0] = x → List Stmt) (_ :: _ :: []) rfl), scope := ((by exact fun x _ => x : ∀ x, fs [12, 0] = x → PySem.Scope) ⟨_, _, _, _, _⟩ rfl), globals := 3, closure := [(Str.ofString "__class__", 72)], defaults := Value.none, kwdefaults := Value.none, pyModule := Value.str (Str.ofString "icalendar.caselessdict") 330, code := Value.ref 83, closureTuple := Value.ref 77 } }) ::
  (nat_lit 85, { cls := Value.type "tuple", data := Data.seq #[Value.ref 72] }) ::
  (nat_lit 86, { cls := Value.type "tuple", data := Data.seq #[Value.str (Str.ofString "__class__") 357] }) ::
  (nat_lit 88, { cls := Value.type "tuple", data := Data.seq #[Value.str (Str.ofString "self") 358, Value.str (Str.ofString "key") 359] }) ::
  (nat_lit 89, { cls := Value.type "tuple", data := Data.seq #[] }) ::
  (nat_lit 91, { cls := Value.type "code", data := Data.fields #[Value.str (Str.ofString "__getitem__") 354, Value.str (Str.ofString "CaselessDict.__getitem__") 355, Value.str (Str.ofString "/claim/cut.py") 356, Value.int 46 0, Value.int 2 0, Value.int 0 0, Value.int 0 0, Value.int 3 0, Value.ref 86, Value.bool true, Value.int 276 0, Value.ref 87, Value.none, Value.ref 88, Value.ref 89, Value.ref 90, Value.int 360 0, Value.int 46 0, Value.str (Str.ofString "/claim/cut.py") 361] }) ::
  (nat_lit 92, { cls := Value.type "function", data := Data.func { name := Str.ofString "__getitem__", qualname := Str.ofString "CaselessDict.__getitem__", params := ((by exact fun x _ => x : ∀ x, fa [12, 1] = x → Arguments) ⟨_, _, _, _, _, _, _⟩ rfl), body := FuncBody.stmts ((by exact fun x _ => x : ∀ x, fb [12, 1] = x → List Stmt) (_ :: _ :: []) rfl), scope := ((by exact fun x _ => x : ∀ x, fs [12, 1] = x → PySem.Scope) ⟨_, _, _, _, _⟩ rfl), globals := 3, closure := [(Str.ofString "__class__", 72)], defaults := Value.none, kwdefaults := Value.none, pyModule := Value.str (Str.ofString "icalendar.caselessdict") 330, code := Value.ref 91, closureTuple := Value.ref 85 } }) ::
  (nat_lit 93, { cls := Value.type "tuple", data := Data.seq #[Value.ref 72] }) ::
  (nat_lit 94, { cls := Value.type "tuple", data := Data.seq #[Value.str (Str.ofString "__class__") 366] }) ::
  (nat_lit 96, { cls := Value.type "tuple", data := Data.seq #[Value.str (Str.ofString "self") 367, Value.str (Str.ofString "key") 368, Value.str (Str.ofString "value") 369] }) ::
  (nat_lit 97, { cls := Value.type "tuple", data := Data.seq #[] }) ::
  (nat_lit 99, { cls := Value.type "code", data := Data.fields #[Value.str (Str.ofString "__setitem__") 363, Value.str (Str.ofString "CaselessDict.__setitem__") 364, Value.str (Str.ofString "/claim/cut.py") 365, Value.int 50 0, Value.int 3 0, Value.int 0 0, Value.int 0 0, Value.int 3 0, Value.ref 94, Value.bool true, Value.int 276 0, Value.ref 95, Value.none, Value.ref 96, Value.ref 97, Value.ref 98, Value.int 370 0, Value.int 50 0, Value.str (Str.ofString "/claim/cut.py") 371] }) ::
  (nat_lit 100, { cls := Value.type "function", data := Data.func { name := Str.ofString "__setitem__", qualname := Str.ofString "CaselessDict.__setitem__", params := ((by exact fun x _ => x : ∀ x, fa [12, 2] = x → Arguments) ⟨_, _, _, _, _, _, _⟩ rfl), body := FuncBody.stmts ((by exact fun x _ => x : ∀ x, fb [12, 2] = x → List Stmt) (_ :: _ :: []) rfl), scope := ((by exact fun x _ => x : ∀ x, fs [12, 2] = x → PySem.Scope) ⟨_, _, _, _, _⟩ rfl), globals := 3, closure := [(Str.ofString "__class__", 72)], defaults := Value.none, kwdefaults := Value.none, pyModule := Value.str (Str.ofString "icalendar.caselessdict") 330, code := Value.ref 99, closureTuple := Value.ref 93 } }) ::
  (nat_lit 101, { cls := Value.type "tuple", data := Data.seq #[Value.ref 72] }) ::
  (nat_lit 102, { cls := Value.type "tuple", data := Data.seq #[Value.str (Str.ofString "__class__") 376] }) ::
  (nat_lit 104, { cls := Value.type "tuple", data := Data.seq #[Value.str (Str.ofString "self") 377, Value.str (Str.ofString "key") 378] }) ::
  (nat_lit 105, { cls := Value.type "tuple", data := Data.seq #[] }) ::
  (nat_lit 107, { cls := Value.type "code", data := Data.fields #[Value.str (Str.ofString "__delitem__") 373, Value.str (Str.ofString "CaselessDict.__delitem__") 374, Value.str (Str.ofString "/claim/cut.py") 375, Value.int 54 0, Value.int 2 0, Value.int 0 0, Value.int 0 0, Value.int 3 0, Value.ref 102, Value.bool true, Value.int 276 0, Value.ref 103, Value.none, Value.ref 104, Value.ref 105, Value.ref 106, Value.int 379 0, Value.int 54 0, Value.str (Str.ofString "/claim/cut.py") 380] }) ::
  (nat_lit 108, { cls := Value.type "function", data := Data.func { name := Str.ofString "__delitem__", qualname := Str.ofString "CaselessDict.__delitem__", params := ((by exact fun x _ => x : ∀ x, fa [12, 3] = x → Arguments) ⟨_, _, _, _, _, _, _⟩ rfl), body := FuncBody.stmts ((by exact fun x _ => x : ∀ x, fb [12, 3] = x → List Stmt) (_ :: _ :: []) rfl), scope := ((by exact fun x _ => x : ∀ x, fs [12, 1] = x → PySem.Scope) ⟨_, _, _, _, _⟩ rfl), globals := 3, closure := [(Str.ofString "__class__", 72)], defaults := Value.none, kwdefaults := Value.none, pyModule := Value.str (Str.ofString "icalendar.caselessdict") 330, code := Value.ref 107, closureTuple := Value.ref 101 } }) ::
  (nat_lit 109, { cls := Value.type "tuple", data := Data.seq #[Value.ref 72] }) ::
  (nat_lit 110, { cls := Value.type "tuple", data := Data.seq #[Value.str (Str.ofString "__class__") 385] }) ::
  (nat_lit 112, { cls := Value.type "tuple", data := Data.seq #[Value.str (Str.ofString "self") 386, Value.str (Str.ofString "key") 387] }) ::
  (nat_lit 113, { cls := Value.type "tuple", data := Data.seq #[] }) ::
  (nat_lit 115, { cls := Value.type "code", data := Data.fields #[Value.str (Str.ofString "__contains__") 382, Value.str (Str.ofString "CaselessDict.__contains__") 383, Value.str (Str.ofString "/claim/cut.py") 384, Value.int 58 0, Value.int 2 0, Value.int 0 0, Value.int 0 0, Value.int 3 0, Value.ref 110, Value.bool true, Value.int 276 0, Value.ref 111, Value.none, Value.ref 112, Value.ref 113, Value.ref 114, Value.int 388 0, Value.int 58 0, Value.str (Str.ofString "/claim/cut.py") 389] }) ::
  (nat_lit 116, { cls := Value.type "function", data := Data.func { name := Str.ofString "__contains__", qualname := Str.ofString "CaselessDict.__contains__", params := ((by exact fun x _ => x : ∀ x, fa [12, 4] = x → Arguments) ⟨_, _, _, _, _, _, _⟩ rfl), body := FuncBody.stmts ((by exact fun x _ => x : ∀ x, fb [12, 4] = x → List Stmt) (_ :: _ :: []) rfl), scope := ((by exact fun x _ => x : ∀ x, fs [12, 1] = x → PySem.Scope) ⟨_, _, _, _, _⟩ rfl), globals := 3, closure := [(Str.ofString "__class__", 72)], defaults := Value.none, kwdefaults := Value.none, pyModule := Value.str (Str.ofString "icalendar.caselessdict") 330, code := Value.ref 115, closureTuple := Value.ref 109 } }) ::
  (nat_lit 117, { cls := Value.type "tuple", data := Data.seq #[Value.none] }) ::
  (nat_lit 118, { cls := Value.type "tuple", data := Data.seq #[Value.ref 72] }) ::
  (nat_lit 119, { cls := Value.type "tuple", data := Data.seq #[Value.str (Str.ofString "__class__") 394] }) ::
  (nat_lit 121, { cls := Value.type "tuple", data := Data.seq #[Value.str (Str.ofString "self") 395, Value.str (Str.ofString "key") 396, Value.str (Str.ofString "default") 397] }) ::
  (nat_lit 122, { cls := Value.type "tuple", data := Data.seq #[] }) ::
  (nat_lit 124, { cls := Value.type "code", data := Data.fields #[Value.str (Str.ofString "get") 391, Value.str (Str.ofString "CaselessDict.get") 392, Value.str (Str.ofString "/claim/cut.py") 393, Value.int 62 0, Value.int 3 0, Value.int 0 0, Value.int 0 0, Value.int 3 0, Value.ref 119, Value.bool true, Value.int 276 0, Value.ref 120, Value.none, Value.ref 121, Value.ref 122, Value.ref 123, Value.int 398 0, Value.int 62 0, Value.str (Str.ofString "/claim/cut.py") 399] }) ::
  (nat_lit 125, { cls := Value.type "function", data := Data.func { name := Str.ofString "get", qualname := Str.ofString "CaselessDict.get", params := ((by exact fun x _ => x : ∀ x, fa [12, 5] = x → Arguments) ⟨_, _, _, _, _, _, _⟩ rfl), body := FuncBody.stmts ((by exact fun x _ => x : ∀ x, fb [12, 5] = x → List Stmt) (_ :: _ :: []) rfl), scope := ((by exact fun x _ => x : ∀ x, fs [12, 5] = x → PySem.Scope) ⟨_, _, _, _, _⟩ rfl), globals := 3, closure := [(Str.ofString "__class__", 72)], defaults := Value.ref 117, kwdefaults := Value.none, pyModule := Value.str (Str.ofString "icalendar.caselessdict") 330, code := Value.ref 124, closureTuple := Value.ref 118 } }) ::
  (nat_lit 126, { cls := Value.type "tuple", data := Data.seq #[Value.none] }) ::
  (nat_lit 127, { cls := Value.type "tuple", data := Data.seq #[Value.ref 72] }) ::
  (nat_lit 128, { cls := Value.type "tuple", data := Data.seq #[Value.str (Str.ofString "__class__") 404] }) ::
  (nat_lit 130, { cls := Value.type "tuple", data := Data.seq #[Value.str (Str.ofString "self") 405, Value.str (Str.ofString "key") 406, Value.str (Str.ofString "value") 407] }) ::
  (nat_lit 131, { cls := Value.type "tuple", data := Data.seq #[] }) ::
  (nat_lit 133, { cls := Value.type "code", data := Data.fields #[Value.str (Str.ofString "setdefault") 401, Value.str (Str.ofString "CaselessDict.setdefault") 402, Value.str (Str.ofString "/claim/cut.py") 403, Value.int 66 0, Value.int 3 0, Value.int 0 0, Value.int 0 0, Value.int 3 0, Value.ref 128, Value.bool true, Value.int 276 0, Value.ref 129, Value.none, Value.ref 130, Value.ref 131, Value.ref 132, Value.int 408 0, Value.int 66 0, Value.str (Str.ofString "/claim/cut.py") 409] }) ::
  (nat_lit 134, { cls := Value.type "function", data := Data.func { name := Str.ofString "setdefault", qualname := Str.ofString "CaselessDict.setdefault", params := ((by exact fun x _ => x : ∀ x, fa [12, 6] = x → Arguments) ⟨_, _, _, _, _, _, _⟩ rfl), body := FuncBody.stmts ((by exact fun x _ => x : ∀ x, fb [12, 6] = x → List Stmt) (_ :: _ :: []) rfl), scope := ((by exact fun x _ => x : ∀ x, fs [12, 2] = x → PySem.Scope) ⟨_, _, _, _, _⟩ rfl), globals := 3, closure := [(Str.ofString "__class__", 72)], defaults := Value.ref 126, kwdefaults := Value.none, pyModule := Value.str (Str.ofString "icalendar.caselessdict") 330, code := Value.ref 133, closureTuple := Value.ref 127 } }) ::
  (nat_lit 135, { cls := Value.type "tuple", data := Data.seq #[Value.none] }) ::
  (nat_lit 136, { cls := Value.type "tuple", data := Data.seq #[Value.ref 72] }) ::
  (nat_lit 137, { cls := Value.type "tuple", data := Data.seq #[Value.str (Str.ofString "__class__") 414] }) ::
  (nat_lit 139, { cls := Value.type "tuple", data := Data.seq #[Value.str (Str.ofString "self") 415, Value.str (Str.ofString "key") 416, Value.str (Str.ofString "default") 417] }) ::
  (nat_lit 140, { cls := Value.type "tuple", data := Data.seq #[] }) ::
  (nat_lit 142, { cls := Value.type "code", data := Data.fields #[Value.str (Str.ofString "pop") 411, Value.str (Str.ofString "CaselessDict.pop") 412, Value.str (Str.ofString "/claim/cut.py") 413, Value.int 70 0, Value.int 3 0, Value.int 0 0, Value.int 0 0, Value.int 3 0, Value.ref 137, Value.bool true, Value.int 276 0, Value.ref 138, Value.none, Value.ref 139, Value.ref 140, Value.ref 141, Value.int 418 0, Value.int 70 0, Value.str (Str.ofString "/claim/cut.py") 419] }) ::
  (nat_lit 143, { cls := Value.type "function", data := Data.func { name := Str.ofString "pop", qualname := Str.ofString "CaselessDict.pop", params := ((by exact fun x _ => x : ∀ x, fa [12, 7] = x → Arguments) ⟨_, _, _, _, _, _, _⟩ rfl), body := FuncBody.stmts ((by exact fun x _ => x : ∀ x, fb [12, 7] = x → List Stmt) (_ :: _ :: []) rfl), scope := ((by exact fun x _ => x : ∀ x, fs [12, 5] = x → PySem.Scope) ⟨_, _, _, _, _⟩ rfl), globals := 3, closure := [(Str.ofString "__class__", 72)], defaults := Value.ref 135, kwdefaults := Value.none, pyModule := Value.str (Str.ofString "icalendar.caselessdict") 330, code := Value.ref 142, closureTuple := Value.ref 136 } }) ::
  (nat_lit 144, { cls := Value.type "tuple", data := Data.seq #[] }) ::
  (nat_lit 146, { cls := Value.type "tuple", data := Data.seq #[Value.str (Str.ofString "self") 424] }) ::
  (nat_lit 147, { cls := Value.type "tuple", data := Data.seq #[] }) ::
  (nat_lit 149, { cls := Value.type "code", data := Data.fields #[Value.str (Str.ofString "popitem") 421, Value.str (Str.ofString "CaselessDict.popitem") 422, Value.str (Str.ofString "/claim/cut.py") 423, Value.int 74 0, Value.int 1 0, Value.int 0 0, Value.int 0 0, Value.int 3 0, Value.ref 144, Value.bool true, Value.int 276 0, Value.ref 145, Value.none, Value.ref 146, Value.ref 147, Value.ref 148, Value.int 425 0, Value.int 74 0, Value.str (Str.ofString "/claim/cut.py") 426] }) ::
  (nat_lit 150, { cls := Value.type "function", data := Data.func { name := Str.ofString "popitem", qualname := Str.ofString "CaselessDict.popitem", params := ((by exact fun x _ => x : ∀ x, fa [12, 8] = x → Arguments) ⟨_, _, _, _, _, _, _⟩ rfl), body := FuncBody.stmts ((by exact fun x _ => x : ∀ x, fb [12, 8] = x → List Stmt) (_ :: []) rfl), scope := ((by exact fun x _ => x : ∀ x, fs [12, 8] = x → PySem.Scope) ⟨_, _, _, _, _⟩ rfl), globals := 3, closure := [], defaults := Value.none, kwdefaults := Value.none, pyModule := Value.str (Str.ofString "icalendar.caselessdict") 330, code := Value.ref 149 } }) ::
  (nat_lit 151, { cls := Value.type "tuple", data := Data.seq #[] }) ::
  (nat_lit 153, { cls := Value.type "tuple", data := Data.seq #[Value.str (Str.ofString "self") 431, Value.str (Str.ofString "key") 432] }) ::
  (nat_lit 154, { cls := Value.type "tuple", data := Data.seq #[] }) ::
  (nat_lit 156, { cls := Value.type "code", data := Data.fields #[Value.str (Str.ofString "has_key") 428, Value.str (Str.ofString "CaselessDict.has_key") 429, Value.str (Str.ofString "/claim/cut.py") 430, Value.int 77 0, Value.int 2 0, Value.int 0 0, Value.int 0 0, Value.int 3 0, Value.ref 151, Value.bool true, Value.int 276 0, Value.ref 152, Value.none, Value.ref 153, Value.ref 154, Value.ref 155, Value.int 433 0, Value.int 77 0, Value.str (Str.ofString "/claim/cut.py") 434] }) ::
  (nat_lit 157, { cls := Value.type "function", data := Data.func { name := Str.ofString "has_key", qualname := Str.ofString "CaselessDict.has_key", params := ((by exact fun x _ => x : ∀ x, fa [12, 9] = x → Arguments) ⟨_, _, _, _, _, _, _⟩ rfl), body := FuncBody.stmts ((by exact fun x _ => x : ∀ x, fb [12, 9] = x → List Stmt) (_ :: []) rfl), scope := ((by exact fun x _ => x : ∀ x, fs [12, 9] = x → PySem.Scope) ⟨_, _, _, _, _⟩ rfl), globals := 3, closure := [], defaults := Value.none, kwdefaults := Value.none, pyModule := Value.str (Str.ofString "icalendar.caselessdict") 330, code := Value.ref 156 } }) ::
  (nat_lit 158, { cls := Value.type "tuple", data := Data.seq #[] }) ::
  (nat_lit 160, { cls := Value.type "tuple", data := Data.seq #[Value.str (Str.ofString "self") 439, Value.str (Str.ofString "args") 440, Value.str (Str.ofString "kwargs") 441, Value.str (Str.ofString "mappings") 442, Value.str (Str.ofString "mapping") 443, Value.str (Str.ofString "key") 444, Value.str (Str.ofString "value") 445] }) ::
  (nat_lit 161, { cls := Value.type "tuple", data := Data.seq #[] }) ::
  (nat_lit 163, { cls := Value.type "code", data := Data.fields #[Value.str (Str.ofString "update") 436, Value.str (Str.ofString "CaselessDict.update") 437, Value.str (Str.ofString "/claim/cut.py") 438, Value.int 80 0, Value.int 1 0, Value.int 0 0, Value.int 0 0, Value.int 15 0, Value.ref 158, Value.bool true, Value.int 276 0, Value.ref 159, Value.none, Value.ref 160, Value.ref 161, Value.ref 162, Value.int 446 0, Value.int 80 0, Value.str (Str.ofString "/claim/cut.py") 447] }) ::
  (nat_lit 164, { cls := Value.type "function", data := Data.func { name := Str.ofString "update", qualname := Str.ofString "CaselessDict.update", params := ((by exact fun x _ => x : ∀ x, fa [12, 10] = x → Arguments) ⟨_, _, _, _, _, _, _⟩ rfl), body := FuncBody.stmts ((by exact fun x _ => x : ∀ x, fb [12, 10] = x → List Stmt) (_ :: _ :: []) rfl), scope := ((by exact fun x _ => x : ∀ x, fs [12, 10] = x → PySem.Scope) ⟨_, _, _, _, _⟩ rfl), globals := 3, closure := [], defaults := Value.none, kwdefaults := Value.none, pyModule := Value.str (Str.ofString "icalendar.caselessdict") 330, code := Value.ref 163 } }) ::
  (nat_lit 165, { cls := Value.type "tuple", data := Data.seq #[] }) ::
  (nat_lit 167, { cls := Value.type "tuple", data := Data.seq #[Value.str (Str.ofString "self") 452, Value.str (Str.ofString "other") 453] }) ::
  (nat_lit 168, { cls := Value.type "tuple", data := Data.seq #[] }) ::
  (nat_lit 170, { cls := Value.type "code", data := Data.fields #[Value.str (Str.ofString "__eq__") 449, Value.str (Str.ofString "CaselessDict.__eq__") 450, Value.str (Str.ofString "/claim/cut.py") 451, Value.int 88 0, Value.int 2 0, Value.int 0 0, Value.int 0 0, Value.int 3 0, Value.ref 165, Value.bool true, Value.int 276 0, Value.ref 166, Value.none, Value.ref 167, Value.ref 168, Value.ref 169, Value.int 454 0, Value.int 88 0, Value.str (Str.ofString "/claim/cut.py") 455] }) ::
  (nat_lit 171, { cls := Value.type "function", data := Data.func { name := Str.ofString "__eq__", qualname := Str.ofString "CaselessDict.__eq__", params := ((by exact fun x _ => x : ∀ x, fa [12, 11] = x → Arguments) ⟨_, _, _, _, _, _, _⟩ rfl), body := FuncBody.stmts ((by exact fun x _ => x : ∀ x, fb [12, 11] = x → List Stmt) (_ :: _ :: []) rfl), scope := ((by exact fun x _ => x : ∀ x, fs [12, 11] = x → PySem.Scope) ⟨_, _, _, _, _⟩ rfl), globals := 3, closure := [], defaults := Value.none, kwdefaults := Value.none, pyModule := Value.str (Str.ofString "icalendar.caselessdict") 330, code := Value.ref 170 } }) ::
  (nat_lit 172, { cls := Value.type "tuple", data := Data.seq #[] }) ::
  (nat_lit 174, { cls := Value.type "tuple", data := Data.seq #[Value.str (Str.ofString "self") 460, Value.str (Str.ofString "other") 461] }) ::
  (nat_lit 175, { cls := Value.type "tuple", data := Data.seq #[] }) ::
  (nat_lit 177, { cls := Value.type "code", data := Data.fields #[Value.str (Str.ofString "__ne__") 457, Value.str (Str.ofString "CaselessDict.__ne__") 458, Value.str (Str.ofString "/claim/cut.py") 459, Value.int 93 0, Value.int 2 0, Value.int 0 0, Value.int 0 0, Value.int 3 0, Value.ref 172, Value.bool true, Value.int 276 0, Value.ref 173, Value.none, Value.ref 174, Value.ref 175, Value.ref 176, Value.int 462 0, Value.int 93 0, Value.str (Str.ofString "/claim/cut.py") 463] }) ::
  (nat_lit 178, { cls := Value.type "function", data := Data.func { name := Str.ofString "__ne__", qualname := Str.ofString "CaselessDict.__ne__", params := ((by exact fun x _ => x : ∀ x, fa [12, 12] = x → Arguments) ⟨_, _, _, _, _, _, _⟩ rfl), body := FuncBody.stmts ((by exact fun x _ => x : ∀ x, fb [12, 12] = x → List Stmt) (_ :: []) rfl), scope := ((by exact fun x _ => x : ∀ x, fs [12, 12] = x → PySem.Scope) ⟨_, _, _, _, _⟩ rfl), globals := 3, closure := [], defaults := Value.none, kwdefaults := Value.none, pyModule := Value.str (Str.ofString "icalendar.caselessdict") 330, code := Value.ref 177 } }) ::
  (nat_lit 179, { cls := Value.type "tuple", data := Data.seq #[] }) ::
  (nat_lit 181, { cls := Value.type "tuple", data := Data.seq #[Value.str (Str.ofString "self") 469] }) ::
  (nat_lit 182, { cls := Value.type "tuple", data := Data.seq #[] }) ::
  (nat_lit 184, { cls := Value.type "code", data := Data.fields #[Value.str (Str.ofString "sorted_keys") 466, Value.str (Str.ofString "CaselessDict.sorted_keys") 467, Value.str (Str.ofString "/claim/cut.py") 468, Value.int 97 0, Value.int 1 0, Value.int 0 0, Value.int 0 0, Value.int 3 0, Value.ref 179, Value.bool true, Value.int 276 0, Value.ref 180, Value.none, Value.ref 181, Value.ref 182, Value.ref 183, Value.int 470 0, Value.int 97 0, Value.str (Str.ofString "/claim/cut.py") 471] }) ::
  (nat_lit 185, { cls := Value.type "function", data := Data.func { name := Str.ofString "sorted_keys", qualname := Str.ofString "CaselessDict.sorted_keys", params := ((by exact fun x _ => x : ∀ x, fa [12, 14] = x → Arguments) ⟨_, _, _, _, _, _, _⟩ rfl), body := FuncBody.stmts ((by exact fun x _ => x : ∀ x, fb [12, 14] = x → List Stmt) (_ :: []) rfl), scope := ((by exact fun x _ => x : ∀ x, fs [12, 8] = x → PySem.Scope) ⟨_, _, _, _, _⟩ rfl), globals := 3, closure := [], defaults := Value.none, kwdefaults := Value.none, pyModule := Value.str (Str.ofString "icalendar.caselessdict") 330, code := Value.ref 184 } }) ::
  (nat_lit 186, { cls := Value.type "tuple", data := Data.seq #[] }) ::
  (nat_lit 188, { cls := Value.type "tuple", data := Data.seq #[Value.str (Str.ofString "self") 476] }) ::
  (nat_lit 189, { cls := Value.type "tuple", data := Data.seq #[] }) ::
  (nat_lit 191, { cls := Value.type "code", data := Data.fields #[Value.str (Str.ofString "sorted_items") 473, Value.str (Str.ofString "CaselessDict.sorted_items") 474, Value.str (Str.ofString "/claim/cut.py") 475, Value.int 100 0, Value.int 1 0, Value.int 0 0, Value.int 0 0, Value.int 3 0, Value.ref 186, Value.bool true, Value.int 276 0, Value.ref 187, Value.none, Value.ref 188, Value.ref 189, Value.ref 190, Value.int 477 0, Value.int 100 0, Value.str (Str.ofString "/claim/cut.py") 478] }) ::
  (nat_lit 192, { cls := Value.type "function", data := Data.func { name := Str.ofString "sorted_items", qualname := Str.ofString "CaselessDict.sorted_items", params := ((by exact fun x _ => x : ∀ x, fa [12, 15] = x → Arguments) ⟨_, _, _, _, _, _, _⟩ rfl), body := FuncBody.stmts ((by exact fun x _ => x : ∀ x, fb [12, 15] = x → List Stmt) (_ :: []) rfl), scope := ((by exact fun x _ => x : ∀ x, fs [12, 8] = x → PySem.Scope) ⟨_, _, _, _, _⟩ rfl), globals := 3, closure := [], defaults := Value.none, kwdefaults := Value.none, pyModule := Value.str (Str.ofString "icalendar.caselessdict") 330, code := Value.ref 191 } }) ::
  (nat_lit 193, { cls := Value.type "tuple", data := Data.seq #[] }) ::
  (nat_lit 194, { cls := Value.type "dict", data := Data.dict #[{ hash := PyData.keyHash P (Str.ofString "__module__"), key := Value.str (Str.ofString "__module__") 339, val := Value.str (Str.ofString "icalendar.caselessdict") 330 }, { hash := PyData.keyHash P (Str.ofString "__firstlineno__"), key := Value.str (Str.ofString "__firstlineno__") 343, val := Value.int 40 342 }, { hash := PyData.keyHash P (Str.ofString "__init__"), key := Value.str (Str.ofString "__init__") 353, val := Value.ref 84 }, { hash := PyData.keyHash P (Str.ofString "__getitem__"), key := Value.str (Str.ofString "__getitem__") 362, val := Value.ref 92 }, { hash := PyData.keyHash P (Str.ofString "__setitem__"), key := Value.str (Str.ofString "__setitem__") 372, val := Value.ref 100 }, { hash := PyData.keyHash P (Str.ofString "__delitem__"), key := Value.str (Str.ofString "__delitem__") 381, val := Value.ref 108 }, { hash := PyData.keyHash P (Str.ofString "__contains__"), key := Value.str (Str.ofString "__contains__") 390, val := Value.ref 116 }, { hash := PyData.keyHash P (Str.ofString "get"), key := Value.str (Str.ofString "get") 400, val := Value.ref 125 }, { hash := PyData.keyHash P (Str.ofString "setdefault"), key := Value.str (Str.ofString "setdefault") 410, val := Value.ref 134 }, { hash := PyData.keyHash P (Str.ofString "pop"), key := Value.str (Str.ofString "pop") 420, val := Value.ref 143 }, { hash := PyData.keyHash P (Str.ofString "popitem"), key := Value.str (Str.ofString "popitem") 427, val := Value.ref 150 }, { hash := PyData.keyHash P (Str.ofString "has_key"), key := Value.str (Str.ofString "has_key") 435, val := Value.ref 157 }, { hash := PyData.keyHash P (Str.ofString "update"), key := Value.str (Str.ofString "update") 448, val := Value.ref 164 }, { hash := PyData.keyHash P (Str.ofString "__eq__"), key := Value.str (Str.ofString "__eq__") 456, val := Value.ref 171 }, { hash := PyData.keyHash P (Str.ofString "__ne__"), key := Value.str (Str.ofString "__ne__") 464, val := Value.ref 178 }, { hash := PyData.keyHash P (Str.ofString "canonical_order"), key := Value.str (Str.ofString "canonical_order") 465, val := Value.none }, { hash := PyData.keyHash P (Str.ofString "sorted_keys"), key := Value.str (Str.ofString "sorted_keys") 472, val := Value.ref 185 }, { hash := PyData.keyHash P (Str.ofString "sorted_items"), key := Value.str (Str.ofString "sorted_items") 479, val := Value.ref 192 }, { hash := PyData.keyHash P (Str.ofString "__static_attributes__"), key := Value.str (Str.ofString "__static_attributes__") 480, val := Value.ref 193 }, { hash := PyData.keyHash P (Str.ofString "__dict__"), key := Value.str (Str.ofString "__dict__") 483, val := Value.ref 196 }, { hash := PyData.keyHash P (Str.ofString "__weakref__"), key := Value.str (Str.ofString "__weakref__") 485, val := Value.ref 197 }, { hash := PyData.keyHash P (Str.ofString "__doc__"), key := Value.str (Str.ofString "__doc__") 486, val := Value.none }, { hash := PyData.keyHash P (Str.ofString "__hash__"), key := Value.str (Str.ofString "__hash__") 487, val := Value.none }] 6 }) ::
  (nat_lit 195, { cls := Value.type "type", data := Data.cls { name := Str.ofString "CaselessDict", bases := [Value.type "dict"], mro := [Value.ref 195, Value.type "dict", Value.type "object"], ns := 194, qualname := Str.ofString "CaselessDict", subclasses := [Value.ref 279] }, slots := #[some (Value.ref 69), none, some (Value.str (Str.ofString "CaselessDict") 332), some (Value.str (Str.ofString "CaselessDict") 340), some (Value.builtin "dict.__new__"), some (Value.bool true)] }) ::
  (nat_lit 196, { cls := Value.type "getset_descriptor", data := Data.fields #[Value.str (Str.ofString "__dict__") 482, Value.ref 195, Value.builtin "function.__dict__", Value.builtin "function.__dict__#set"] }) ::
  (nat_lit 197, { cls := Value.type "getset_descriptor", data := Data.fields #[Value.str (Str.ofString "__weakref__") 484, Value.ref 195, Value.builtin "ExceptionGroup.__weakref__", Value.none] }) ::
  (nat_lit 200, { cls := Value.type "tuple", data := Data.seq #[Value.bool false] }) ::
  (nat_lit 201, { cls := Value.type "tuple", data := Data.seq #[] }) ::
  (nat_lit 204, { cls := Value.type "code", data := Data.fields #[Value.str (Str.ofString "param_value") 492, Value.str (Str.ofString "param_value") 493, Value.str (Str.ofString "/claim/cut.py") 494, Value.int 103 0, Value.int 2 0, Value.int 0 0, Value.int 0 0, Value.int 3 0, Value.ref 201, Value.bool true, Value.int 276 0, Value.ref 202, Value.none, Value.none, Value.none, Value.ref 203, Value.int 495 0, Value.int 103 0, Value.str (Str.ofString "/claim/cut.py") 496] }) ::
  (nat_lit 205, { cls := Value.type "function", data := Data.func { name := Str.ofString "param_value", qualname := Str.ofString "param_value", params := ((by exact fun x _ => x : ∀ x, fa [14] = x → Arguments) ⟨_, _, _, _, _, _, _⟩ rfl), body := FuncBody.stmts ((by exact fun x _ => x : ∀ x, fb [14] = x → List Stmt) (_ :: _ :: _ :: []) rfl), scope := ((by exact fun x _ => x : ∀ x, fs [14] = x → PySem.Scope) ⟨_, _, _, _, _⟩ rfl), globals := 3, closure := [], defaults := Value.ref 200, kwdefaults := Value.none, pyModule := Value.str (Str.ofString "icalendar.parser.parameter") 490, code := Value.ref 204 } }) ::
  (nat_lit 209, { cls := Value.type "tuple", data := Data.seq #[Value.int 14 0, Value.int 95 0, Value.int 4 0, Value.int 1 0, Value.int 1 0, Value.int 10 0, Value.int 3 0, Value.int 16843008 0, Value.int 16843009 0, Value.int 16843009 0, Value.int 16843009 0, Value.int 16843009 0, Value.int 16843009 0, Value.int 16843009 0, Value.int 16843009 0, Value.int 16843010 0, Value.int 16843009 0, Value.int 16843009 0, Value.int 16843009 0, Value.int 16843009 0, Value.int 16843009 0, Value.int 16843009 0, Value.int 16843009 0, Value.int 16843009 0, Value.int 16843009 0, Value.int 16843009 0, Value.int 16843009 0, Value.int 16843009 0, Value.int 16843009 0, Value.int 16843009 0, Value.int 16843009 0, Value.int 16843009 0, Value.int 16843009 0, Value.int 16843009 0, Value.int 16843009 0, Value.int 16843009 0, Value.int 16843009 0, Value.int 16843009 0, Value.int 16843009 0, Value.int 16843009 0, Value.int 16843009 0, Value.int 16843009 0, Value.int 16843009 0, Value.int 16843009 0, Value.int 16843009 0, Value.int 16843009 0, Value.int 16843009 0, Value.int 16843009 0, Value.int 16843009 0, Value.int 16843009 0, Value.int 16843009 0, Value.int 16843009 0, Value.int 16843009 0, Value.int 16843009 0, Value.int 16843009 0, Value.int 16843009 0, Value.int 16843009 0, Value.int 16843009 0, Value.int 16843009 0, Value.int 16843009 0, Value.int 16843009 0, Value.int 16843009 0, Value.int 16843009 0, Value.int 16843009 0, Value.int 16843009 0, Value.int 16843009 0, Value.int 16843009 0, Value.int 16843009 0, Value.int 16843009 0, Value.int 16843009 0, Value.int 16843009 0, Value.int 0 0, Value.int 201330688 0, Value.int 0 0, Value.int 0 0, Value.int 0 0, Value.int 0 0, Value.int 0 0, Value.int 0 0, Value.int 0 0, Value.int 0 0, Value.int 0 0, Value.int 0 0, Value.int 0 0, Value.int 0 0, Value.int 0 0, Value.int 0 0, Value.int 33554432 0, Value.int 0 0, Value.int 0 0, Value.int 0 0, Value.int 0 0, Value.int 0 0, Value.int 0 0, Value.int 0 0, Value.int 0 0, Value.int 13 0, Value.int 92 0, Value.int 10 0, Value.int 3 0, Value.int 16843008 0, Value.int 16843009 0, Value.int 16843009 0, Value.int 16843009 0, Value.int 16843009 0, Value.int 16843009 0, Value.int 16843009 0, Value.int 16843009 0, Value.int 16843010 0, Value.int 16843009 0, Value.int 16843009 0, Value.int 16843009 0, Value.int 16843009 0, Value.int 16843009 0, Value.int 16843009 0, Value.int 16843009 0, Value.int 16843009 0, Value.int 16843009 0, Value.int 16843009 0, Value.int 16843009 0, Value.int 16843009 0, Value.int 16843009 0, Value.int 16843009 0, Value.int 16843009 0, Value.int 16843009 0, Value.int 16843009 0, Value.int 16843009 0, Value.int 16843009 0, Value.int 16843009 0, Value.int 16843009 0, Value.int 16843009 0, Value.int 16843009 0, Value.int 16843009 0, Value.int 16843009 0, Value.int 16843009 0, Value.int 16843009 0, Value.int 16843009 0, Value.int 16843009 0, Value.int 16843009 0, Value.int 16843009 0, Value.int 16843009 0, Value.int 16843009 0, Value.int 16843009 0, Value.int 16843009 0, Value.int 16843009 0, Value.int 16843009 0, Value.int 16843009 0, Value.int 16843009 0, Value.int 16843009 0, Value.int 16843009 0, Value.int 16843009 0, Value.int 16843009 0, Value.int 16843009 0, Value.int 16843009 0, Value.int 16843009 0, Value.int 16843009 0, Value.int 16843009 0, Value.int 16843009 0, Value.int 16843009 0, Value.int 16843009 0, Value.int 16843009 0, Value.int 16843009 0, Value.int 16843009 0, Value.int 16843009 0, Value.int 0 0, Value.int 201330688 0, Value.int 0 0, Value.int 0 0, Value.int 0 0, Value.int 0 0, Value.int 0 0, Value.int 0 0, Value.int 0 0, Value.int 0 0, Value.int 0 0, Value.int 0 0, Value.int 0 0, Value.int 0 0, Value.int 0 0, Value.int 0 0, Value.int 33554432 0, Value.int 0 0, Value.int 0 0, Value.int 0 0, Value.int 0 0, Value.int 0 0, Value.int 0 0, Value.int 0 0, Value.int 0 0, Value.int 1 0] }) ::
  (nat_lit 210, { cls := Value.type "re.Pattern", data := Data.fields #[Value.str (Str.ofString "[,;:’]") 499, Value.int 32 692, Value.int 0 0, Value.none, Value.none, Value.ref 209, Value.int 0 0] }) ::
  (nat_lit 211, { cls := Value.type "tuple", data := Data.seq #[Value.bool false] }) ::
  (nat_lit 212, { cls := Value.type "tuple", data := Data.seq #[] }) ::
  (nat_lit 214, { cls := Value.type "tuple", data := Data.seq #[Value.str (Str.ofString "val") 697, Value.str (Str.ofString "always_quote") 698] }) ::
  (nat_lit 215, { cls := Value.type "tuple", data := Data.seq #[] }) ::
  (nat_lit 217, { cls := Value.type "code", data := Data.fields #[Value.str (Str.ofString "dquote") 694, Value.str (Str.ofString "dquote") 695, Value.str (Str.ofString "/claim/cut.py") 696, Value.int 110 0, Value.int 2 0, Value.int 0 0, Value.int 0 0, Value.int 3 0, Value.ref 212, Value.bool true, Value.int 276 0, Value.ref 213, Value.none, Value.ref 214, Value.ref 215, Value.ref 216, Value.int 699 0, Value.int 110 0, Value.str (Str.ofString "/claim/cut.py") 700] }) ::
  (nat_lit 218, { cls := Value.type "function", data := Data.func { name := Str.ofString "dquote", qualname := Str.ofString "dquote", params := ((by exact fun x _ => x : ∀ x, fa [16] = x → Arguments) ⟨_, _, _, _, _, _, _⟩ rfl), body := FuncBody.stmts ((by exact fun x _ => x : ∀ x, fb [16] = x → List Stmt) (_ :: _ :: _ :: []) rfl), scope := ((by exact fun x _ => x : ∀ x, fs [16] = x → PySem.Scope) ⟨_, _, _, _, _⟩ rfl), globals := 3, closure := [], defaults := Value.ref 211, kwdefaults := Value.none, pyModule := Value.str (Str.ofString "icalendar.parser.parameter") 490, code := Value.ref 217 } }) ::
  (nat_lit 219, { cls := Value.type "tuple", data := Data.seq #[Value.str (Str.ofString ",") 702, Value.bool false] }) ::
  (nat_lit 220, { cls := Value.type "tuple", data := Data.seq #[] }) ::
  (nat_lit 222, { cls := Value.type "tuple", data := Data.seq #[Value.str (Str.ofString "lst") 706, Value.str (Str.ofString "sep") 707, Value.str (Str.ofString "always_quote") 708] }) ::
  (nat_lit 223, { cls := Value.type "tuple", data := Data.seq #[Value.str (Str.ofString "always_quote") 709] }) ::
  (nat_lit 225, { cls := Value.type "code", data := Data.fields #[Value.str (Str.ofString "q_join") 703, Value.str (Str.ofString "q_join") 704, Value.str (Str.ofString "/claim/cut.py") 705, Value.int 115 0, Value.int 3 0, Value.int 0 0, Value.int 0 0, Value.int 3 0, Value.ref 220, Value.bool true, Value.int 276 0, Value.ref 221, Value.none, Value.ref 222, Value.ref 223, Value.ref 224, Value.int 710 0, Value.int 115 0, Value.str (Str.ofString "/claim/cut.py") 711] }) ::
  (nat_lit 226, { cls := Value.type "function", data := Data.func { name := Str.ofString "q_join", qualname := Str.ofString "q_join", params := ((by exact fun x _ => x : ∀ x, fa [17] = x → Arguments) ⟨_, _, _, _, _, _, _⟩ rfl), body := FuncBody.stmts ((by exact fun x _ => x : ∀ x, fb [17] = x → List Stmt) (_ :: []) rfl), scope := ((by exact fun x _ => x : ∀ x, fs [17] = x → PySem.Scope) ⟨_, _, _, _, _⟩ rfl), globals := 3, closure := [], defaults := Value.ref 219, kwdefaults := Value.none, pyModule := Value.str (Str.ofString "icalendar.parser.parameter") 490, code := Value.ref 225 } }) ::
  (nat_lit 227, { cls := Value.type "tuple", data := Data.seq #[Value.ref 195] }) ::
  (nat_lit 230, { cls := Value.type "cell", data := Data.cell (some (Value.ref 279)) }) ::
  (nat_lit 235, { cls := Value.type "tuple", data := Data.seq #[Value.ref 230] }) ::
  (nat_lit 236, { cls := Value.type "tuple", data := Data.seq #[Value.str (Str.ofString "__class__") 728] }) ::
  (nat_lit 239, { cls := Value.type "code", data := Data.fields #[Value.str (Str.ofString "__init__") 725, Value.str (Str.ofString "Parameters.__init__") 726, Value.str (Str.ofString "/claim/cut.py") 727, Value.int 119 0, Value.int 1 0, Value.int 0 0, Value.int 0 0, Value.int 15 0, Value.ref 236, Value.bool true, Value.int 276 0, Value.ref 237, Value.none, Value.none, Value.none, Value.ref 238, Value.int 729 0, Value.int 119 0, Value.str (Str.ofString "/claim/cut.py") 730] }) ::
  (nat_lit 240, { cls := Value.type "function", data := Data.func { name := Str.ofString "__init__", qualname := Str.ofString "Parameters.__init__", params := ((by exact fun x _ => x : ∀ x, fa [18, 0] = x → Arguments) ⟨_, _, _, _, _, _, _⟩ rfl), body := FuncBody.stmts ((by exact fun x _ => x : ∀ x, fb [18, 0] = x → List Stmt) (_ :: _ :: _ :: _ :: []) rfl), scope := ((by exact fun x _ => x : ∀ x, fs [18, 0] = x → PySem.Scope) ⟨_, _, _, _, _⟩ rfl), globals := 3, closure := [(Str.ofString "__class__", 230)], defaults := Value.none, kwdefaults := Value.none, pyModule := Value.str (Str.ofString "icalendar.parser.parameter") 490, code := Value.ref 239, closureTuple := Value.ref 235 } }) ::
  (nat_lit 241, { cls := Value.type "tuple", data := Data.seq #[Value.str (Str.ofString "ALTREP") 732, Value.str (Str.ofString "DELEGATED-FROM") 733, Value.str (Str.ofString "DELEGATED-TO") 734, Value.str (Str.ofString "DIR") 735, Value.str (Str.ofString "MEMBER") 736, Value.str (Str.ofString "SENT-BY") 737, Value.str (Str.ofString "X-ADDRESS") 738, Value.str (Str.ofString "X-TITLE") 739, Value.str (Str.ofString "LINKREL") 740] }) ::
  (nat_lit 242, { cls := Value.type "dict", data := Data.dict #[{ hash := PyData.keyHash P (Str.ofString "CN"), key := Value.str (Str.ofString "CN") 742, val := Value.str (Str.ofString " '") 743 }] 1 }) ::
  (nat_lit 243, { cls := Value.type "tuple", data := Data.seq #[] }) ::
  (nat_lit 245, { cls := Value.type "tuple", data := Data.seq #[Value.str (Str.ofString "self") 749] }) ::
  (nat_lit 246, { cls := Value.type "tuple", data := Data.seq #[] }) ::
  (nat_lit 248, { cls := Value.type "code", data := Data.fields #[Value.str (Str.ofString "params") 746, Value.str (Str.ofString "Parameters.params") 747, Value.str (Str.ofString "/claim/cut.py") 748, Value.int 129 0, Value.int 1 0, Value.int 0 0, Value.int 0 0, Value.int 3 0, Value.ref 243, Value.bool true, Value.int 276 0, Value.ref 244, Value.none, Value.ref 245, Value.ref 246, Value.ref 247, Value.int 750 0, Value.int 129 0, Value.str (Str.ofString "/claim/cut.py") 751] }) ::
  (nat_lit 249, { cls := Value.type "function", data := Data.func { name := Str.ofString "params", qualname := Str.ofString "Parameters.params", params := ((by exact fun x _ => x : ∀ x, fa [18, 3] = x → Arguments) ⟨_, _, _, _, _, _, _⟩ rfl), body := FuncBody.stmts ((by exact fun x _ => x : ∀ x, fb [18, 3] = x → List Stmt) (_ :: []) rfl), scope := ((by exact fun x _ => x : ∀ x, fs [18, 3] = x → PySem.Scope) ⟨_, _, _, _, _⟩ rfl), globals := 3, closure := [], defaults := Value.none, kwdefaults := Value.none, pyModule := Value.str (Str.ofString "icalendar.parser.parameter") 490, code := Value.ref 248 } }) ::
  (nat_lit 250, { cls := Value.type "tuple", data := Data.seq #[Value.bool true] }) ::
  (nat_lit 251, { cls := Value.type "tuple", data := Data.seq #[] }) ::
  (nat_lit 253, { cls := Value.type "tuple", data := Data.seq #[Value.str (Str.ofString "self") 756, Value.str (Str.ofString "sorted") 757, Value.str (Str.ofString "result") 758, Value.str (Str.ofString "items") 759, Value.str (Str.ofString "key") 760, Value.str (Str.ofString "upper_key") 761, Value.str (Str.ofString "check_quoteable_characters") 762, Value.str (Str.ofString "always_quote") 763, Value.str (Str.ofString "quoted_value") 764] }) ::
  (nat_lit 254, { cls := Value.type "tuple", data := Data.seq #[Value.str (Str.ofString "value") 765] }) ::
  (nat_lit 256, { cls := Value.type "code", data := Data.fields #[Value.str (Str.ofString "to_ical") 753, Value.str (Str.ofString "Parameters.to_ical") 754, Value.str (Str.ofString "/claim/cut.py") 755, Value.int 132 0, Value.int 2 0, Value.int 0 0, Value.int 0 0, Value.int 3 0, Value.ref 251, Value.bool true, Value.int 276 0, Value.ref 252, Value.none, Value.ref 253, Value.ref 254, Value.ref 255, Value.int 766 0, Value.int 132 0, Value.str (Str.ofString "/claim/cut.py") 767] }) ::
  (nat_lit 257, { cls := Value.type "function", data := Data.func { name := Str.ofString "to_ical", qualname := Str.ofString "Parameters.to_ical", params := ((by exact fun x _ => x : ∀ x, fa [18, 4] = x → Arguments) ⟨_, _, _, _, _, _, _⟩ rfl), body := FuncBody.stmts ((by exact fun x _ => x : ∀ x, fb [18, 4] = x → List Stmt) (_ :: _ :: _ :: _ :: _ :: []) rfl), scope := ((by exact fun x _ => x : ∀ x, fs [18, 4] = x → PySem.Scope) ⟨_, _, _, _, _⟩ rfl), globals := 3, closure := [], defaults := Value.ref 250, kwdefaults := Value.none, pyModule := Value.str (Str.ofString "icalendar.parser.parameter") 490, code := Value.ref 256 } }) ::
  (nat_lit 258, { cls := Value.type "tuple", data := Data.seq #[Value.bool false] }) ::
  (nat_lit 259, { cls := Value.type "tuple", data := Data.seq #[] }) ::
  (nat_lit 261, { cls := Value.type "tuple", data := Data.seq #[Value.str (Str.ofString "cls") 772, Value.str (Str.ofString "st") 773, Value.str (Str.ofString "strict") 774] }) ::
  (nat_lit 262, { cls := Value.type "tuple", data := Data.seq #[] }) ::
  (nat_lit 264, { cls := Value.type "code", data := Data.fields #[Value.str (Str.ofString "from_ical") 769, Value.str (Str.ofString "Parameters.from_ical") 770, Value.str (Str.ofString "/claim/cut.py") 771, Value.int 149 0, Value.int 3 0, Value.int 0 0, Value.int 0 0, Value.int 3 0, Value.ref 259, Value.bool true, Value.int 276 0, Value.ref 260, Value.none, Value.ref 261, Value.ref 262, Value.ref 263, Value.int 775 0, Value.int 149 0, Value.str (Str.ofString "/claim/cut.py") 776] }) ::
  (nat_lit 265, { cls := Value.type "function", data := Data.func { name := Str.ofString "from_ical", qualname := Str.ofString "Parameters.from_ical", params := ((by exact fun x _ => x : ∀ x, fa [18, 5] = x → Arguments) ⟨_, _, _, _, _, _, _⟩ rfl), body := FuncBody.stmts ((by exact fun x _ => x : ∀ x, fb [18, 5] = x → List Stmt) (_ :: []) rfl), scope := ((by exact fun x _ => x : ∀ x, fs [18, 5] = x → PySem.Scope) ⟨_, _, _, _, _⟩ rfl), globals := 3, closure := [], defaults := Value.ref 258, kwdefaults := Value.none, pyModule := Value.str (Str.ofString "icalendar.parser.parameter") 490, annotations := some 268, code := Value.ref 264 } }) ::
  (nat_lit 266, { cls := Value.type "dict", data := Data.dict #[{ hash := PyData.keyHash P (Str.ofString "__module__"), key := Value.str (Str.ofString "__module__") 778, val := Value.str (Str.ofString "icalendar.parser.parameter") 490 }, { hash := PyData.keyHash P (Str.ofString "__name__"), key := Value.str (Str.ofString "__name__") 781, val := Value.str (Str.ofString "from_ical") 780 }, { hash := PyData.keyHash P (Str.ofString "__qualname__"), key := Value.str (Str.ofString "__qualname__") 784, val := Value.str (Str.ofString "Parameters.from_ical") 783 }, { hash := PyData.keyHash P (Str.ofString "__doc__"), key := Value.str (Str.ofString "__doc__") 786, val := Value.none }, { hash := PyData.keyHash P (Str.ofString "__annotations__"), key := Value.str (Str.ofString "__annotations__") 788, val := Value.ref 268 }] 5 }) ::
  (nat_lit 267, { cls := Value.type "classmethod", dict := some 266, data := Data.fields #[Value.ref 265, Value.bool false] }) ::
  (nat_lit 268, { cls := Value.type "dict", data := Data.dict #[] }) ::
  (nat_lit 269, { cls := Value.type "tuple", data := Data.seq #[] }) ::
  (nat_lit 271, { cls := Value.type "tuple", data := Data.seq #[Value.str (Str.ofString "self") 793, Value.str (Str.ofString "value") 794] }) ::
  (nat_lit 272, { cls := Value.type "tuple", data := Data.seq #[] }) ::
  (nat_lit 274, { cls := Value.type "code", data := Data.fields #[Value.str (Str.ofString "value") 790, Value.str (Str.ofString "Parameters.value") 791, Value.str (Str.ofString "/claim/cut.py") 792, Value.int 153 0, Value.int 1 0, Value.int 0 0, Value.int 0 0, Value.int 3 0, Value.ref 269, Value.bool true, Value.int 276 0, Value.ref 270, Value.none, Value.ref 271, Value.ref 272, Value.ref 273, Value.int 795 0, Value.int 153 0, Value.str (Str.ofString "/claim/cut.py") 796] }) ::
  (nat_lit 275, { cls := Value.type "function", data := Data.func { name := Str.ofString "value", qualname := Str.ofString "Parameters.value", params := ((by exact fun x _ => x : ∀ x, fa [18, 6] = x → Arguments) ⟨_, _, _, _, _, _, _⟩ rfl), body := FuncBody.stmts ((by exact fun x _ => x : ∀ x, fb [18, 6] = x → List Stmt) (_ :: _ :: _ :: []) rfl), scope := ((by exact fun x _ => x : ∀ x, fs [18, 6] = x → PySem.Scope) ⟨_, _, _, _, _⟩ rfl), globals := 3, closure := [], defaults := Value.none, kwdefaults := Value.none, pyModule := Value.str (Str.ofString "icalendar.parser.parameter") 490, code := Value.ref 274 } }) ::
  (nat_lit 276, { cls := Value.type "property", data := Data.fields #[Value.ref 275, Value.none, Value.none, Value.none, Value.str (Str.ofString "value") 798, Value.bool false] }) ::
  (nat_lit 277, { cls := Value.type "tuple", data := Data.seq #[] }) ::
  (nat_lit 278, { cls := Value.type "dict", data := Data.dict #[{ hash := PyData.keyHash P (Str.ofString "__module__"), key := Value.str (Str.ofString "__module__") 720, val := Value.str (Str.ofString "icalendar.parser.parameter") 490 }, { hash := PyData.keyHash P (Str.ofString "__firstlineno__"), key := Value.str (Str.ofString "__firstlineno__") 724, val := Value.int 117 723 }, { hash := PyData.keyHash P (Str.ofString "__init__"), key := Value.str (Str.ofString "__init__") 731, val := Value.ref 240 }, { hash := PyData.keyHash P (Str.ofString "always_quoted"), key := Value.str (Str.ofString "always_quoted") 741, val := Value.ref 241 }, { hash := PyData.keyHash P (Str.ofString "quote_also"), key := Value.str (Str.ofString "quote_also") 745, val := Value.ref 242 }, { hash := PyData.keyHash P (Str.ofString "params"), key := Value.str (Str.ofString "params") 752, val := Value.ref 249 }, { hash := PyData.keyHash P (Str.ofString "to_ical"), key := Value.str (Str.ofString "to_ical") 768, val := Value.ref 257 }, { hash := PyData.keyHash P (Str.ofString "from_ical"), key := Value.str (Str.ofString "from_ical") 789, val := Value.ref 267 }, { hash := PyData.keyHash P (Str.ofString "value"), key := Value.str (Str.ofString "value") 798, val := Value.ref 276 }, { hash := PyData.keyHash P (Str.ofString "__static_attributes__"), key := Value.str (Str.ofString "__static_attributes__") 799, val := Value.ref 277 }, { hash := PyData.keyHash P (Str.ofString "__doc__"), key := Value.str (Str.ofString "__doc__") 801, val := Value.none }] 3 }) ::
  (nat_lit 279, { cls := Value.type "type", data := Data.cls { name := Str.ofString "Parameters", bases := [Value.ref 195], mro := [Value.ref 279, Value.ref 195, Value.type "dict", Value.type "object"], ns := 278, qualname := Str.ofString "Parameters" }, slots := #[some (Value.ref 227), none, some (Value.str (Str.ofString "Parameters") 713), some (Value.str (Str.ofString "Parameters") 721), some (Value.builtin "dict.__new__"), some (Value.bool true)] }) ::
  (nat_lit 282, { cls := Value.type "tuple", data := Data.seq #[] }) ::
  (nat_lit 284, { cls := Value.type "tuple", data := Data.seq #[Value.str (Str.ofString "param_value") 807, Value.str (Str.ofString "replacements") 808, Value.str (Str.ofString "result") 809, Value.str (Str.ofString "char") 810] }) ::
  (nat_lit 285, { cls := Value.type "tuple", data := Data.seq #[] }) ::
  (nat_lit 287, { cls := Value.type "code", data := Data.fields #[Value.str (Str.ofString "rfc_6868_escape") 804, Value.str (Str.ofString "rfc_6868_escape") 805, Value.str (Str.ofString "/claim/cut.py") 806, Value.int 159 0, Value.int 1 0, Value.int 0 0, Value.int 0 0, Value.int 3 0, Value.ref 282, Value.bool true, Value.int 276 0, Value.ref 283, Value.none, Value.ref 284, Value.ref 285, Value.ref 286, Value.int 811 0, Value.int 159 0, Value.str (Str.ofString "/claim/cut.py") 812] }) ::
  (nat_lit 288, { cls := Value.type "function", data := Data.func { name := Str.ofString "rfc_6868_escape", qualname := Str.ofString "rfc_6868_escape", params := ((by exact fun x _ => x : ∀ x, fa [19] = x → Arguments) ⟨_, _, _, _, _, _, _⟩ rfl), body := FuncBody.stmts ((by exact fun x _ => x : ∀ x, fb [19] = x → List Stmt) (_ :: _ :: _ :: _ :: []) rfl), scope := ((by exact fun x _ => x : ∀ x, fs [19] = x → PySem.Scope) ⟨_, _, _, _, _⟩ rfl), globals := 3, closure := [], defaults := Value.none, kwdefaults := Value.none, pyModule := Value.str (Str.ofString "icalendar.parser.parameter") 490, code := Value.ref 287 } }) ::
  (nat_lit 289, { cls := Value.type "tuple", data := Data.seq #[Value.type "str"] }) ::
  (nat_lit 292, { cls := Value.type "cell", data := Data.cell (some (Value.ref 335)) }) ::
  (nat_lit 297, { cls := Value.type "tuple", data := Data.seq #[Value.str (Str.ofString "encoding") 830, Value.str (Str.ofString "params") 831] }) ::
  (nat_lit 298, { cls := Value.type "tuple", data := Data.seq #[Value.str (Str.ofString "utf-8") 292, Value.none] }) ::
  (nat_lit 299, { cls := Value.type "tuple", data := Data.seq #[Value.ref 292] }) ::
  (nat_lit 300, { cls := Value.type "tuple", data := Data.seq #[Value.str (Str.ofString "__class__") 836] }) ::
  (nat_lit 302, { cls := Value.type "tuple", data := Data.seq #[Value.str (Str.ofString "cls") 837, Value.str (Str.ofString "value") 838, Value.str (Str.ofString "encoding") 839, Value.str (Str.ofString "params") 840, Value.str (Str.ofString "self") 841] }) ::
  (nat_lit 303, { cls := Value.type "tuple", data := Data.seq #[] }) ::
  (nat_lit 305, { cls := Value.type "code", data := Data.fields #[Value.str (Str.ofString "__new__") 833, Value.str (Str.ofString "vText.__new__") 834, Value.str (Str.ofString "/claim/cut.py") 835, Value.int 170 0, Value.int 4 0, Value.int 0 0, Value.int 0 0, Value.int 3 0, Value.ref 300, Value.bool true, Value.int 276 0, Value.ref 301, Value.none, Value.ref 302, Value.ref 303, Value.ref 304, Value.int 842 0, Value.int 170 0, Value.str (Str.ofString "/claim/cut.py") 843] }) ::
  (nat_lit 306, { cls := Value.type "function", data := Data.func { name := Str.ofString "__new__", qualname := Str.ofString "vText.__new__", params := ((by exact fun x _ => x : ∀ x, fa [21, 2] = x → Arguments) ⟨_, _, _, _, _, _, _⟩ rfl), body := FuncBody.stmts ((by exact fun x _ => x : ∀ x, fb [21, 2] = x → List Stmt) (_ :: _ :: _ :: _ :: _ :: []) rfl), scope := ((by exact fun x _ => x : ∀ x, fs [21, 2] = x → PySem.Scope) ⟨_, _, _, _, _⟩ rfl), globals := 3, closure := [(Str.ofString "__class__", 292)], defaults := Value.ref 298, kwdefaults := Value.none, pyModule := Value.str (Str.ofString "icalendar.prop.text") 814, code := Value.ref 305, closureTuple := Value.ref 299 } }) ::
  (nat_lit 307, { cls := Value.type "tuple", data := Data.seq #[] }) ::
  (nat_lit 309, { cls := Value.type "tuple", data := Data.seq #[Value.str (Str.ofString "self") 848] }) ::
  (nat_lit 310, { cls := Value.type "tuple", data := Data.seq #[] }) ::
  (nat_lit 312, { cls := Value.type "code", data := Data.fields #[Value.str (Str.ofString "to_ical") 845, Value.str (Str.ofString "vText.to_ical") 846, Value.str (Str.ofString "/claim/cut.py") 847, Value.int 177 0, Value.int 1 0, Value.int 0 0, Value.int 0 0, Value.int 3 0, Value.ref 307, Value.bool true, Value.int 276 0, Value.ref 308, Value.none, Value.ref 309, Value.ref 310, Value.ref 311, Value.int 849 0, Value.int 177 0, Value.str (Str.ofString "/claim/cut.py") 850] }) ::
  (nat_lit 313, { cls := Value.type "function", data := Data.func { name := Str.ofString "to_ical", qualname := Str.ofString "vText.to_ical", params := ((by exact fun x _ => x : ∀ x, fa [21, 3] = x → Arguments) ⟨_, _, _, _, _, _, _⟩ rfl), body := FuncBody.stmts ((by exact fun x _ => x : ∀ x, fb [21, 3] = x → List Stmt) (_ :: []) rfl), scope := ((by exact fun x _ => x : ∀ x, fs [21, 3] = x → PySem.Scope) ⟨_, _, _, _, _⟩ rfl), globals := 3, closure := [], defaults := Value.none, kwdefaults := Value.none, pyModule := Value.str (Str.ofString "icalendar.prop.text") 814, code := Value.ref 312 } }) ::
  (nat_lit 314, { cls := Value.type "tuple", data := Data.seq #[] }) ::
  (nat_lit 316, { cls := Value.type "tuple", data := Data.seq #[Value.str (Str.ofString "cls") 855, Value.str (Str.ofString "ical") 856] }) ::
  (nat_lit 317, { cls := Value.type "tuple", data := Data.seq #[] }) ::
  (nat_lit 319, { cls := Value.type "code", data := Data.fields #[Value.str (Str.ofString "from_ical") 852, Value.str (Str.ofString "vText.from_ical") 853, Value.str (Str.ofString "/claim/cut.py") 854, Value.int 180 0, Value.int 2 0, Value.int 0 0, Value.int 0 0, Value.int 3 0, Value.ref 314, Value.bool true, Value.int 276 0, Value.ref 315, Value.none, Value.ref 316, Value.ref 317, Value.ref 318, Value.int 857 0, Value.int 180 0, Value.str (Str.ofString "/claim/cut.py") 858] }) ::
  (nat_lit 320, { cls := Value.type "function", data := Data.func { name := Str.ofString "from_ical", qualname := Str.ofString "vText.from_ical", params := ((by exact fun x _ => x : ∀ x, fa [21, 4] = x → Arguments) ⟨_, _, _, _, _, _, _⟩ rfl), body := FuncBody.stmts ((by exact fun x _ => x : ∀ x, fb [21, 4] = x → List Stmt) (_ :: []) rfl), scope := ((by exact fun x _ => x : ∀ x, fs [21, 4] = x → PySem.Scope) ⟨_, _, _, _, _⟩ rfl), globals := 3, closure := [], defaults := Value.none, kwdefaults := Value.none, pyModule := Value.str (Str.ofString "icalendar.prop.text") 814, annotations := some 323, code := Value.ref 319 } }) ::
  (nat_lit 321, { cls := Value.type "dict", data := Data.dict #[{ hash := PyData.keyHash P (Str.ofString "__module__"), key := Value.str (Str.ofString "__module__") 860, val := Value.str (Str.ofString "icalendar.prop.text") 814 }, { hash := PyData.keyHash P (Str.ofString "__name__"), key := Value.str (Str.ofString "__name__") 863, val := Value.str (Str.ofString "from_ical") 862 }, { hash := PyData.keyHash P (Str.ofString "__qualname__"), key := Value.str (Str.ofString "__qualname__") 866, val := Value.str (Str.ofString "vText.from_ical") 865 }, { hash := PyData.keyHash P (Str.ofString "__doc__"), key := Value.str (Str.ofString "__doc__") 868, val := Value.none }, { hash := PyData.keyHash P (Str.ofString "__annotations__"), key := Value.str (Str.ofString "__annotations__") 870, val := Value.ref 323 }] 5 }) ::
  (nat_lit 322, { cls := Value.type "classmethod", dict := some 321, data := Data.fields #[Value.ref 320, Value.bool false] }) ::
  (nat_lit 323, { cls := Value.type "dict", data := Data.dict #[] }) ::
  (nat_lit 324, { cls := Value.type "tuple", data := Data.seq #[] }) ::
  (nat_lit 326, { cls := Value.type "tuple", data := Data.seq #[Value.str (Str.ofString "self") 875] }) ::
  (nat_lit 327, { cls := Value.type "tuple", data := Data.seq #[] }) ::
  (nat_lit 329, { cls := Value.type "code", data := Data.fields #[Value.str (Str.ofString "ical_value") 872, Value.str (Str.ofString "vText.ical_value") 873, Value.str (Str.ofString "/claim/cut.py") 874, Value.int 184 0, Value.int 1 0, Value.int 0 0, Value.int 0 0, Value.int 3 0, Value.ref 324, Value.bool true, Value.int 276 0, Value.ref 325, Value.none, Value.ref 326, Value.ref 327, Value.ref 328, Value.int 876 0, Value.int 184 0, Value.str (Str.ofString "/claim/cut.py") 877] }) ::
  (nat_lit 330, { cls := Value.type "function", data := Data.func { name := Str.ofString "ical_value", qualname := Str.ofString "vText.ical_value", params := ((by exact fun x _ => x : ∀ x, fa [21, 5] = x → Arguments) ⟨_, _, _, _, _, _, _⟩ rfl), body := FuncBody.stmts ((by exact fun x _ => x : ∀ x, fb [21, 5] = x → List Stmt) (_ :: []) rfl), scope := ((by exact fun x _ => x : ∀ x, fs [12, 8] = x → PySem.Scope) ⟨_, _, _, _, _⟩ rfl), globals := 3, closure := [], defaults := Value.none, kwdefaults := Value.none, pyModule := Value.str (Str.ofString "icalendar.prop.text") 814, code := Value.ref 329 } }) ::
  (nat_lit 331, { cls := Value.type "property", data := Data.fields #[Value.ref 330, Value.none, Value.none, Value.none, Value.str (Str.ofString "ical_value") 879, Value.bool false] }) ::
  (nat_lit 332, { cls := Value.type "tuple", data := Data.seq #[Value.str (Str.ofString "encoding") 880, Value.str (Str.ofString "params") 881] }) ::
  (nat_lit 334, { cls := Value.type "dict", data := Data.dict #[{ hash := PyData.keyHash P (Str.ofString "__module__"), key := Value.str (Str.ofString "__module__") 823, val := Value.str (Str.ofString "icalendar.prop.text") 814 }, { hash := PyData.keyHash P (Str.ofString "__firstlineno__"), key := Value.str (Str.ofString "__firstlineno__") 827, val := Value.int 166 826 }, { hash := PyData.keyHash P (Str.ofString "default_value"), key := Value.str (Str.ofString "default_value") 829, val := Value.str (Str.ofString "TEXT") 828 }, { hash := PyData.keyHash P (Str.ofString "__slots__"), key := Value.str (Str.ofString "__slots__") 832, val := Value.ref 297 }, { hash := PyData.keyHash P (Str.ofString "__new__"), key := Value.str (Str.ofString "__new__") 844, val := Value.ref 336 }, { hash := PyData.keyHash P (Str.ofString "to_ical"), key := Value.str (Str.ofString "to_ical") 851, val := Value.ref 313 }, { hash := PyData.keyHash P (Str.ofString "from_ical"), key := Value.str (Str.ofString "from_ical") 871, val := Value.ref 322 }, { hash := PyData.keyHash P (Str.ofString "ical_value"), key := Value.str (Str.ofString "ical_value") 879, val := Value.ref 331 }, { hash := PyData.keyHash P (Str.ofString "__static_attributes__"), key := Value.str (Str.ofString "__static_attributes__") 882, val := Value.ref 332 }, { hash := PyData.keyHash P (Str.ofString "encoding"), key := Value.str (Str.ofString "encoding") 886, val := Value.ref 337 }, { hash := PyData.keyHash P (Str.ofString "params"), key := Value.str (Str.ofString "params") 888, val := Value.ref 338 }, { hash := PyData.keyHash P (Str.ofString "__doc__"), key := Value.str (Str.ofString "__doc__") 889, val := Value.none }] 5 }) ::
  (nat_lit 335, { cls := Value.type "type", data := Data.cls { name := Str.ofString "vText", bases := [Value.type "str"], mro := [Value.ref 335, Value.type "str", Value.type "object"], ns := 334, qualname := Str.ofString "vText", hasDict := false, slotNames := [Str.ofString "encoding", Str.ofString "params"] }, slots := #[some (Value.ref 289), none, some (Value.str (Str.ofString "vText") 816), some (Value.str (Str.ofString "vText") 824), some Value.none, some (Value.bool false)] }) ::
  (nat_lit 336, { cls := Value.type "staticmethod", data := Data.fields #[Value.ref 306] }) ::
  (nat_lit 337, { cls := Value.type "member_descriptor", data := Data.fields #[Value.str (Str.ofString "encoding") 885, Value.ref 335, Value.builtin "proto.slot", Value.builtin "proto.slot#set", Value.int 1 0] }) ::
  (nat_lit 338, { cls := Value.type "member_descriptor", data := Data.fields #[Value.str (Str.ofString "params") 887, Value.ref 335, Value.builtin "proto.slot", Value.builtin "proto.slot#set", Value.int 0 0] }) ::
  (nat_lit 341, { cls := Value.type "tuple", data := Data.seq #[] }) ::
  (nat_lit 343, { cls := Value.type "tuple", data := Data.seq #[Value.str (Str.ofString "script") 899, Value.str (Str.ofString "n") 900, Value.str (Str.ofString "s") 901] }) ::
  (nat_lit 344, { cls := Value.type "tuple", data := Data.seq #[] }) ::
  (nat_lit 346, { cls := Value.type "code", data := Data.fields #[Value.str (Str.ofString "_law_bag") 896, Value.str (Str.ofString "_law_bag") 897, Value.str (Str.ofString "/claim/cut.py") 898, Value.int 188 0, Value.int 1 0, Value.int 0 0, Value.int 0 0, Value.int 3 0, Value.ref 341, Value.bool true, Value.int 276 0, Value.ref 342, Value.none, Value.ref 343, Value.ref 344, Value.ref 345, Value.int 902 0, Value.int 188 0, Value.str (Str.ofString "/claim/cut.py") 903] }) ::
  (nat_lit 347, { cls := Value.type "function", data := Data.func { name := Str.ofString "_law_bag", qualname := Str.ofString "_law_bag", params := ((by exact fun x _ => x : ∀ x, fa [23] = x → Arguments) ⟨_, _, _, _, _, _, _⟩ rfl), body := FuncBody.stmts ((by exact fun x _ => x : ∀ x, fb [23] = x → List Stmt) (_ :: _ :: _ :: []) rfl), scope := ((by exact fun x _ => x : ∀ x, fs [23] = x → PySem.Scope) ⟨_, _, _, _, _⟩ rfl), globals := 3, closure := [], defaults := Value.none, kwdefaults := Value.none, pyModule := Value.str (Str.ofString "law_be0020_01") 894, code := Value.ref 346 } }) ::
  (nat_lit 348, { cls := Value.type "tuple", data := Data.seq #[] }) ::
  (nat_lit 350, { cls := Value.type "tuple", data := Data.seq #[Value.str (Str.ofString "bag") 908, Value.str (Str.ofString "n") 909, Value.str (Str.ofString "told") 910] }) ::
  (nat_lit 351, { cls := Value.type "tuple", data := Data.seq #[] }) ::
  (nat_lit 353, { cls := Value.type "code", data := Data.fields #[Value.str (Str.ofString "_law_draw") 905, Value.str (Str.ofString "_law_draw") 906, Value.str (Str.ofString "/claim/cut.py") 907, Value.int 193 0, Value.int 2 0, Value.int 0 0, Value.int 0 0, Value.int 3 0, Value.ref 348, Value.bool true, Value.int 276 0, Value.ref 349, Value.none, Value.ref 350, Value.ref 351, Value.ref 352, Value.int 911 0, Value.int 193 0, Value.str (Str.ofString "/claim/cut.py") 912] }) ::
  (nat_lit 354, { cls := Value.type "function", data := Data.func { name := Str.ofString "_law_draw", qualname := Str.ofString "_law_draw", params := ((by exact fun x _ => x : ∀ x, fa [24] = x → Arguments) ⟨_, _, _, _, _, _, _⟩ rfl), body := FuncBody.stmts ((by exact fun x _ => x : ∀ x, fb [24] = x → List Stmt) (_ :: _ :: _ :: []) rfl), scope := ((by exact fun x _ => x : ∀ x, fs [24] = x → PySem.Scope) ⟨_, _, _, _, _⟩ rfl), globals := 3, closure := [], defaults := Value.none, kwdefaults := Value.none, pyModule := Value.str (Str.ofString "law_be0020_01") 894, code := Value.ref 353 } }) ::
  (nat_lit 355, { cls := Value.type "tuple", data := Data.seq #[] }) ::
  (nat_lit 357, { cls := Value.type "tuple", data := Data.seq #[Value.str (Str.ofString "bag") 917, Value.str (Str.ofString "pieces") 918, Value.str (Str.ofString "told") 919, Value.str (Str.ofString "k") 920] }) ::
  (nat_lit 358, { cls := Value.type "tuple", data := Data.seq #[] }) ::
  (nat_lit 360, { cls := Value.type "code", data := Data.fields #[Value.str (Str.ofString "_law_text") 914, Value.str (Str.ofString "_law_text") 915, Value.str (Str.ofString "/claim/cut.py") 916, Value.int 197 0, Value.int 1 0, Value.int 0 0, Value.int 0 0, Value.int 3 0, Value.ref 355, Value.bool true, Value.int 276 0, Value.ref 356, Value.none, Value.ref 357, Value.ref 358, Value.ref 359, Value.int 921 0, Value.int 197 0, Value.str (Str.ofString "/claim/cut.py") 922] }) ::
  (nat_lit 361, { cls := Value.type "function", data := Data.func { name := Str.ofString "_law_text", qualname := Str.ofString "_law_text", params := ((by exact fun x _ => x : ∀ x, fa [25] = x → Arguments) ⟨_, _, _, _, _, _, _⟩ rfl), body := FuncBody.stmts ((by exact fun x _ => x : ∀ x, fb [25] = x → List Stmt) (_ :: _ :: _ :: _ :: []) rfl), scope := ((by exact fun x _ => x : ∀ x, fs [25] = x → PySem.Scope) ⟨_, _, _, _, _⟩ rfl), globals := 3, closure := [], defaults := Value.none, kwdefaults := Value.none, pyModule := Value.str (Str.ofString "law_be0020_01") 894, code := Value.ref 360 } }) ::
  (nat_lit 362, { cls := Value.type "tuple", data := Data.seq #[] }) ::
  (nat_lit 364, { cls := Value.type "tuple", data := Data.seq #[Value.str (Str.ofString "told") 927, Value.str (Str.ofString "found") 928, Value.str (Str.ofString "k") 929, Value.str (Str.ofString "rows") 930] }) ::
  (nat_lit 365, { cls := Value.type "tuple", data := Data.seq #[] }) ::
  (nat_lit 367, { cls := Value.type "code", data := Data.fields #[Value.str (Str.ofString "_law_plain") 924, Value.str (Str.ofString "_law_plain") 925, Value.str (Str.ofString "/claim/cut.py") 926, Value.int 203 0, Value.int 1 0, Value.int 0 0, Value.int 0 0, Value.int 3 0, Value.ref 362, Value.bool true, Value.int 276 0, Value.ref 363, Value.none, Value.ref 364, Value.ref 365, Value.ref 366, Value.int 931 0, Value.int 203 0, Value.str (Str.ofString "/claim/cut.py") 932] }) ::
  (nat_lit 368, { cls := Value.type "function", data := Data.func { name := Str.ofString "_law_plain", qualname := Str.ofString "_law_plain", params := ((by exact fun x _ => x : ∀ x, fa [26] = x → Arguments) ⟨_, _, _, _, _, _, _⟩ rfl), body := FuncBody.stmts ((by exact fun x _ => x : ∀ x, fb [26] = x → List Stmt) (_ :: _ :: _ :: _ :: _ :: _ :: []) rfl), scope := ((by exact fun x _ => x : ∀ x, fs [26] = x → PySem.Scope) ⟨_, _, _, _, _⟩ rfl), globals := 3, closure := [], defaults := Value.none, kwdefaults := Value.none, pyModule := Value.str (Str.ofString "law_be0020_01") 894, code := Value.ref 367 } }) ::
  (nat_lit 369, { cls := Value.type "tuple", data := Data.seq #[] }) ::
  (nat_lit 372, { cls := Value.type "code", data := Data.fields #[Value.str (Str.ofString "law") 934, Value.str (Str.ofString "law") 935, Value.str (Str.ofString "/claim/cut.py") 936, Value.int 222 0, Value.int 1 0, Value.int 0 0, Value.int 0 0, Value.int 3 0, Value.ref 369, Value.bool true, Value.int 276 0, Value.ref 370, Value.none, Value.none, Value.none, Value.ref 371, Value.int 937 0, Value.int 222 0, Value.str (Str.ofString "/claim/cut.py") 938] }) ::
  (nat_lit 373, { cls := Value.type "function", data := Data.func { name := Str.ofString "law", qualname := Str.ofString "law", params := ((by exact fun x _ => x : ∀ x, fa [27] = x → Arguments) ⟨_, _, _, _, _, _, _⟩ rfl), body := FuncBody.stmts ((by exact fun x _ => x : ∀ x, fb [27] = x → List Stmt) (_ :: _ :: _ :: _ :: _ :: _ :: _ :: _ :: _ :: _ :: _ :: _ :: _ :: _ :: []) rfl), scope := ((by exact fun x _ => x : ∀ x, fs [27] = x → PySem.Scope) ⟨_, _, _, _, _⟩ rfl), globals := 3, closure := [], defaults := Value.none, kwdefaults := Value.none, pyModule := Value.str (Str.ofString "law_be0020_01") 894, code := Value.ref 372 } }) ::
  []
noncomputable def hd.o_41 : Params → Obj := fun P => { cls := Value.type "dict", data := Data.dict #[{ hash := PyData.keyHash P (Str.ofString "__name__"), key := Value.str (Str.ofString "__name__") 1, val := Value.str (Str.ofString "builtins") 160 }, { hash := PyData.keyHash P (Str.ofString "__doc__"), key := Value.str (Str.ofString "__doc__") 2, val := Value.builtin "builtins.__doc__:str#opaque" }, { hash := PyData.keyHash P (Str.ofString "__package__"), key := Value.str (Str.ofString "__package__") 3, val := Value.builtin "builtins.__package__:str#opaque" }, { hash := PyData.keyHash P (Str.ofString "__loader__"), key := Value.str (Str.ofString "__loader__") 4, val := Value.builtin "builtins.__loader__:shared#opaque" }, { hash := PyData.keyHash P (Str.ofString "__spec__"), key := Value.str (Str.ofString "__spec__") 5, val := Value.builtin "builtins.__spec__#opaque" }, { hash := PyData.keyHash P (Str.ofString "__build_class__"), key := Value.str (Str.ofString "__build_class__") 6, val := Value.builtin "__build_class__" }, { hash := PyData.keyHash P (Str.ofString "__import__"), key := Value.str (Str.ofString "__import__") 7, val := Value.builtin "__import__" }, { hash := PyData.keyHash P (Str.ofString "abs"), key := Value.str (Str.ofString "abs") 8, val := Value.builtin "abs" }, { hash := PyData.keyHash P (Str.ofString "all"), key := Value.str (Str.ofString "all") 9, val := Value.builtin "all" }, { hash := PyData.keyHash P (Str.ofString "any"), key := Value.str (Str.ofString "any") 10, val := Value.builtin "any" }, { hash := PyData.keyHash P (Str.ofString "ascii"), key := Value.str (Str.ofString "ascii") 11, val := Value.builtin "ascii" }, { hash := PyData.keyHash P (Str.ofString "bin"), key := Value.str (Str.ofString "bin") 12, val := Value.builtin "bin" }, { hash := PyData.keyHash P (Str.ofString "breakpoint"), key := Value.str (Str.ofString "breakpoint") 13, val := Value.builtin "breakpoint" }, { hash := PyData.keyHash P (Str.ofString "callable"), key := Value.str (Str.ofString "callable") 14, val := Value.builtin "callable" }, { hash := PyData.keyHash P (Str.ofString "chr"), key := Value.str (Str.ofString "chr") 15, val := Value.builtin "chr" }, { hash := PyData.keyHash P (Str.ofString "compile"), key := Value.str (Str.ofString "compile") 16, val := Value.builtin "compile" }, { hash := PyData.keyHash P (Str.ofString "delattr"), key := Value.str (Str.ofString "delattr") 17, val := Value.builtin "delattr" }, { hash := PyData.keyHash P (Str.ofString "dir"), key := Value.str (Str.ofString "dir") 18, val := Value.builtin "dir" }, { hash := PyData.keyHash P (Str.ofString "divmod"), key := Value.str (Str.ofString "divmod") 19, val := Value.builtin "divmod" }, { hash := PyData.keyHash P (Str.ofString "eval"), key := Value.str (Str.ofString "eval") 20, val := Value.builtin "eval" }, { hash := PyData.keyHash P (Str.ofString "exec"), key := Value.str (Str.ofString "exec") 21, val := Value.builtin "exec" }, { hash := PyData.keyHash P (Str.ofString "format"), key := Value.str (Str.ofString "format") 22, val := Value.builtin "format" }, { hash := PyData.keyHash P (Str.ofString "getattr"), key := Value.str (Str.ofString "getattr") 23, val := Value.builtin "getattr" }, { hash := PyData.keyHash P (Str.ofString "globals"), key := Value.str (Str.ofString "globals") 24, val := Value.builtin "globals" }, { hash := PyData.keyHash P (Str.ofString "hasattr"), key := Value.str (Str.ofString "hasattr") 25, val := Value.builtin "hasattr" }, { hash := PyData.keyHash P (Str.ofString "hash"), key := Value.str (Str.ofString "hash") 26, val := Value.builtin "hash" }, { hash := PyData.keyHash P (Str.ofString "hex"), key := Value.str (Str.ofString "hex") 27, val := Value.builtin "hex" }, { hash := PyData.keyHash P (Str.ofString "id"), key := Value.str (Str.ofString "id") 28, val := Value.builtin "id" }, { hash := PyData.keyHash P (Str.ofString "input"), key := Value.str (Str.ofString "input") 29, val := Value.builtin "input" }, { hash := PyData.keyHash P (Str.ofString "isinstance"), key := Value.str (Str.ofString "isinstance") 30, val := Value.builtin "isinstance" }, { hash := PyData.keyHash P (Str.ofString "issubclass"), key := Value.str (Str.ofString "issubclass") 31, val := Value.builtin "issubclass" }, { hash := PyData.keyHash P (Str.ofString "iter"), key := Value.str (Str.ofString "iter") 32, val := Value.builtin "iter" }, { hash := PyData.keyHash P (Str.ofString "aiter"), key := Value.str (Str.ofString "aiter") 33, val := Value.builtin "aiter" }, { hash := PyData.keyHash P (Str.ofString "len"), key := Value.str (Str.ofString "len") 34, val := Value.builtin "len" }, { hash := PyData.keyHash P (Str.ofString "locals"), key := Value.str (Str.ofString "locals") 35, val := Value.builtin "locals" }, { hash := PyData.keyHash P (Str.ofString "max"), key := Value.str (Str.ofString "max") 36, val := Value.builtin "max" }, { hash := PyData.keyHash P (Str.ofString "min"), key := Value.str (Str.ofString "min") 37, val := Value.builtin "min" }, { hash := PyData.keyHash P (Str.ofString "next"), key := Value.str (Str.ofString "next") 38, val := Value.builtin "next" }, { hash := PyData.keyHash P (Str.ofString "anext"), key := Value.str (Str.ofString "anext") 39, val := Value.builtin "anext" }, { hash := PyData.keyHash P (Str.ofString "oct"), key := Value.str (Str.ofString "oct") 40, val := Value.builtin "oct" }, { hash := PyData.keyHash P (Str.ofString "ord"), key := Value.str (Str.ofString "ord") 41, val := Value.builtin "ord" }, { hash := PyData.keyHash P (Str.ofString "pow"), key := Value.str (Str.ofString "pow") 42, val := Value.builtin "pow" }, { hash := PyData.keyHash P (Str.ofString "print"), key := Value.str (Str.ofString "print") 43, val := Value.builtin "print" }, { hash := PyData.keyHash P (Str.ofString "repr"), key := Value.str (Str.ofString "repr") 44, val := Value.builtin "repr" }, { hash := PyData.keyHash P (Str.ofString "round"), key := Value.str (Str.ofString "round") 45, val := Value.builtin "round" }, { hash := PyData.keyHash P (Str.ofString "setattr"), key := Value.str (Str.ofString "setattr") 46, val := Value.builtin "setattr" }, { hash := PyData.keyHash P (Str.ofString "sorted"), key := Value.str (Str.ofString "sorted") 47, val := Value.builtin "sorted" }, { hash := PyData.keyHash P (Str.ofString "sum"), key := Value.str (Str.ofString "sum") 48, val := Value.builtin "sum" }, { hash := PyData.keyHash P (Str.ofString "vars"), key := Value.str (Str.ofString "vars") 49, val := Value.builtin "vars" }, { hash := PyData.keyHash P (Str.ofString "None"), key := Value.str (Str.ofString "None") 50, val := Value.none }, { hash := PyData.keyHash P (Str.ofString "Ellipsis"), key := Value.str (Str.ofString "Ellipsis") 51, val := Value.ellipsis }, { hash := PyData.keyHash P (Str.ofString "NotImplemented"), key := Value.str (Str.ofString "NotImplemented") 52, val := Value.notImplemented }, { hash := PyData.keyHash P (Str.ofString "False"), key := Value.str (Str.ofString "False") 53, val := Value.bool false }, { hash := PyData.keyHash P (Str.ofString "True"), key := Value.str (Str.ofString "True") 54, val := Value.bool true }, { hash := PyData.keyHash P (Str.ofString "bool"), key := Value.str (Str.ofString "bool") 55, val := Value.type "bool" }, { hash := PyData.keyHash P (Str.ofString "memoryview"), key := Value.str (Str.ofString "memoryview") 56, val := Value.type "memoryview" }, { hash := PyData.keyHash P (Str.ofString "bytearray"), key := Value.str (Str.ofString "bytearray") 57, val := Value.type "bytearray" }, { hash := PyData.keyHash P (Str.ofString "bytes"), key := Value.str (Str.ofString "bytes") 58, val := Value.type "bytes" }, { hash := PyData.keyHash P (Str.ofString "classmethod"), key := Value.str (Str.ofString "classmethod") 59, val := Value.type "classmethod" }, { hash := PyData.keyHash P (Str.ofString "complex"), key := Value.str (Str.ofString "complex") 60, val := Value.type "complex" }, { hash := PyData.keyHash P (Str.ofString "dict"), key := Value.str (Str.ofString "dict") 61, val := Value.type "dict" }, { hash := PyData.keyHash P (Str.ofString "enumerate"), key := Value.str (Str.ofString "enumerate") 62, val := Value.type "enumerate" }, { hash := PyData.keyHash P (Str.ofString "filter"), key := Value.str (Str.ofString "filter") 63, val := Value.type "filter" }, { hash := PyData.keyHash P (Str.ofString "float"), key := Value.str (Str.ofString "float") 64, val := Value.type "float" }, { hash := PyData.keyHash P (Str.ofString "frozenset"), key := Value.str (Str.ofString "frozenset") 65, val := Value.type "frozenset" }, { hash := PyData.keyHash P (Str.ofString "property"), key := Value.str (Str.ofString "property") 66, val := Value.type "property" }, { hash := PyData.keyHash P (Str.ofString "int"), key := Value.str (Str.ofString "int") 67, val := Value.type "int" }, { hash := PyData.keyHash P (Str.ofString "list"), key := Value.str (Str.ofString "list") 68, val := Value.type "list" }, { hash := PyData.keyHash P (Str.ofString "map"), key := Value.str (Str.ofString "map") 69, val := Value.type "map" }, { hash := PyData.keyHash P (Str.ofString "object"), key := Value.str (Str.ofString "object") 70, val := Value.type "object" }, { hash := PyData.keyHash P (Str.ofString "range"), key := Value.str (Str.ofString "range") 71, val := Value.type "range" }, { hash := PyData.keyHash P (Str.ofString "reversed"), key := Value.str (Str.ofString "reversed") 72, val := Value.type "reversed" }, { hash := PyData.keyHash P (Str.ofString "set"), key := Value.str (Str.ofString "set") 73, val := Value.type "set" }, { hash := PyData.keyHash P (Str.ofString "slice"), key := Value.str (Str.ofString "slice") 74, val := Value.type "slice" }, { hash := PyData.keyHash P (Str.ofString "staticmethod"), key := Value.str (Str.ofString "staticmethod") 75, val := Value.type "staticmethod" }, { hash := PyData.keyHash P (Str.ofString "str"), key := Value.str (Str.ofString "str") 76, val := Value.type "str" }, { hash := PyData.keyHash P (Str.ofString "super"), key := Value.str (Str.ofString "super") 77, val := Value.type "super" }, { hash := PyData.keyHash P (Str.ofString "tuple"), key := Value.str (Str.ofString "tuple") 78, val := Value.type "tuple" }, { hash := PyData.keyHash P (Str.ofString "type"), key := Value.str (Str.ofString "type") 79, val := Value.type "type" }, { hash := PyData.keyHash P (Str.ofString "zip"), key := Value.str (Str.ofString "zip") 80, val := Value.type "zip" }, { hash := PyData.keyHash P (Str.ofString "__debug__"), key := Value.str (Str.ofString "__debug__") 81, val := Value.bool true }, { hash := PyData.keyHash P (Str.ofString "BaseException"), key := Value.str (Str.ofString "BaseException") 82, val := Value.type "BaseException" }, { hash := PyData.keyHash P (Str.ofString "BaseExceptionGroup"), key := Value.str (Str.ofString "BaseExceptionGroup") 83, val := Value.type "BaseExceptionGroup" }, { hash := PyData.keyHash P (Str.ofString "Exception"), key := Value.str (Str.ofString "Exception") 84, val := Value.type "Exception" }, { hash := PyData.keyHash P (Str.ofString "GeneratorExit"), key := Value.str (Str.ofString "GeneratorExit") 85, val := Value.type "GeneratorExit" }, { hash := PyData.keyHash P (Str.ofString "KeyboardInterrupt"), key := Value.str (Str.ofString "KeyboardInterrupt") 86, val := Value.type "KeyboardInterrupt" }, { hash := PyData.keyHash P (Str.ofString "SystemExit"), key := Value.str (Str.ofString "SystemExit") 87, val := Value.type "SystemExit" }, { hash := PyData.keyHash P (Str.ofString "ArithmeticError"), key := Value.str (Str.ofString "ArithmeticError") 88, val := Value.type "ArithmeticError" }, { hash := PyData.keyHash P (Str.ofString "AssertionError"), key := Value.str (Str.ofString "AssertionError") 89, val := Value.type "AssertionError" }, { hash := PyData.keyHash P (Str.ofString "AttributeError"), key := Value.str (Str.ofString "AttributeError") 90, val := Value.type "AttributeError" }, { hash := PyData.keyHash P (Str.ofString "BufferError"), key := Value.str (Str.ofString "BufferError") 91, val := Value.type "BufferError" }, { hash := PyData.keyHash P (Str.ofString "EOFError"), key := Value.str (Str.ofString "EOFError") 92, val := Value.type "EOFError" }, { hash := PyData.keyHash P (Str.ofString "ImportError"), key := Value.str (Str.ofString "ImportError") 93, val := Value.type "ImportError" }, { hash := PyData.keyHash P (Str.ofString "LookupError"), key := Value.str (Str.ofString "LookupError") 94, val := Value.type "LookupError" }, { hash := PyData.keyHash P (Str.ofString "MemoryError"), key := Value.str (Str.ofString "MemoryError") 95, val := Value.type "MemoryError" }, { hash := PyData.keyHash P (Str.ofString "NameError"), key := Value.str (Str.ofString "NameError") 96, val := Value.type "NameError" }, { hash := PyData.keyHash P (Str.ofString "OSError"), key := Value.str (Str.ofString "OSError") 97, val := Value.type "OSError" }, { hash := PyData.keyHash P (Str.ofString "ReferenceError"), key := Value.str (Str.ofString "ReferenceError") 98, val := Value.type "ReferenceError" }, { hash := PyData.keyHash P (Str.ofString "RuntimeError"), key := Value.str (Str.ofString "RuntimeError") 99, val := Value.type "RuntimeError" }, { hash := PyData.keyHash P (Str.ofString "StopAsyncIteration"), key := Value.str (Str.ofString "StopAsyncIteration") 100, val := Value.type "StopAsyncIteration" }, { hash := PyData.keyHash P (Str.ofString "StopIteration"), key := Value.str (Str.ofString "StopIteration") 101, val := Value.type "StopIteration" }, { hash := PyData.keyHash P (Str.ofString "SyntaxError"), key := Value.str (Str.ofString "SyntaxError") 102, val := Value.type "SyntaxError" }, { hash := PyData.keyHash P (Str.ofString "SystemError"), key := Value.str (Str.ofString "SystemError") 103, val := Value.type "SystemError" }, { hash := PyData.keyHash P (Str.ofString "TypeError"), key := Value.str (Str.ofString "TypeError") 104, val := Value.type "TypeError" }, { hash := PyData.keyHash P (Str.ofString "ValueError"), key := Value.str (Str.ofString "ValueError") 105, val := Value.type "ValueError" }, { hash := PyData.keyHash P (Str.ofString "Warning"), key := Value.str (Str.ofString "Warning") 106, val := Value.type "Warning" }, { hash := PyData.keyHash P (Str.ofString "FloatingPointError"), key := Value.str (Str.ofString "FloatingPointError") 107, val := Value.type "FloatingPointError" }, { hash := PyData.keyHash P (Str.ofString "OverflowError"), key := Value.str (Str.ofString "OverflowError") 108, val := Value.type "OverflowError" }, { hash := PyData.keyHash P (Str.ofString "ZeroDivisionError"), key := Value.str (Str.ofString "ZeroDivisionError") 109, val := Value.type "ZeroDivisionError" }, { hash := PyData.keyHash P (Str.ofString "BytesWarning"), key := Value.str (Str.ofString "BytesWarning") 110, val := Value.type "BytesWarning" }, { hash := PyData.keyHash P (Str.ofString "DeprecationWarning"), key := Value.str (Str.ofString "DeprecationWarning") 111, val := Value.type "DeprecationWarning" }, { hash := PyData.keyHash P (Str.ofString "EncodingWarning"), key := Value.str (Str.ofString "EncodingWarning") 112, val := Value.type "EncodingWarning" }, { hash := PyData.keyHash P (Str.ofString "FutureWarning"), key := Value.str (Str.ofString "FutureWarning") 113, val := Value.type "FutureWarning" }, { hash := PyData.keyHash P (Str.ofString "ImportWarning"), key := Value.str (Str.ofString "ImportWarning") 114, val := Value.type "ImportWarning" }, { hash := PyData.keyHash P (Str.ofString "PendingDeprecationWarning"), key := Value.str (Str.ofString "PendingDeprecationWarning") 115, val := Value.type "PendingDeprecationWarning" }, { hash := PyData.keyHash P (Str.ofString "ResourceWarning"), key := Value.str (Str.ofString "ResourceWarning") 116, val := Value.type "ResourceWarning" }, { hash := PyData.keyHash P (Str.ofString "RuntimeWarning"), key := Value.str (Str.ofString "RuntimeWarning") 117, val := Value.type "RuntimeWarning" }, { hash := PyData.keyHash P (Str.ofString "SyntaxWarning"), key := Value.str (Str.ofString "SyntaxWarning") 118, val := Value.type "SyntaxWarning" }, { hash := PyData.keyHash P (Str.ofString "UnicodeWarning"), key := Value.str (Str.ofString "UnicodeWarning") 119, val := Value.type "UnicodeWarning" }, { hash := PyData.keyHash P (Str.ofString "UserWarning"), key := Value.str (Str.ofString "UserWarning") 120, val := Value.type "UserWarning" }, { hash := PyData.keyHash P (Str.ofString "BlockingIOError"), key := Value.str (Str.ofString "BlockingIOError") 121, val := Value.type "BlockingIOError" }, { hash := PyData.keyHash P (Str.ofString "ChildProcessError"), key := Value.str (Str.ofString "ChildProcessError") 122, val := Value.type "ChildProcessError" }, { hash := PyData.keyHash P (Str.ofString "ConnectionError"), key := Value.str (Str.ofString "ConnectionError") 123, val := Value.type "ConnectionError" }, { hash := PyData.keyHash P (Str.ofString "FileExistsError"), key := Value.str (Str.ofString "FileExistsError") 124, val := Value.type "FileExistsError" }, { hash := PyData.keyHash P (Str.ofString "FileNotFoundError"), key := Value.str (Str.ofString "FileNotFoundError") 125, val := Value.type "FileNotFoundError" }, { hash := PyData.keyHash P (Str.ofString "InterruptedError"), key := Value.str (Str.ofString "InterruptedError") 126, val := Value.type "InterruptedError" }, { hash := PyData.keyHash P (Str.ofString "IsADirectoryError"), key := Value.str (Str.ofString "IsADirectoryError") 127, val := Value.type "IsADirectoryError" }, { hash := PyData.keyHash P (Str.ofString "NotADirectoryError"), key := Value.str (Str.ofString "NotADirectoryError") 128, val := Value.type "NotADirectoryError" }, { hash := PyData.keyHash P (Str.ofString "PermissionError"), key := Value.str (Str.ofString "PermissionError") 129, val := Value.type "PermissionError" }, { hash := PyData.keyHash P (Str.ofString "ProcessLookupError"), key := Value.str (Str.ofString "ProcessLookupError") 130, val := Value.type "ProcessLookupError" }, { hash := PyData.keyHash P (Str.ofString "TimeoutError"), key := Value.str (Str.ofString "TimeoutError") 131, val := Value.type "TimeoutError" }, { hash := PyData.keyHash P (Str.ofString "IndentationError"), key := Value.str (Str.ofString "IndentationError") 132, val := Value.type "IndentationError" }, { hash := PyData.keyHash P (Str.ofString "_IncompleteInputError"), key := Value.str (Str.ofString "_IncompleteInputError") 133, val := Value.type "_IncompleteInputError" }, { hash := PyData.keyHash P (Str.ofString "IndexError"), key := Value.str (Str.ofString "IndexError") 134, val := Value.type "IndexError" }, { hash := PyData.keyHash P (Str.ofString "KeyError"), key := Value.str (Str.ofString "KeyError") 135, val := Value.type "KeyError" }, { hash := PyData.keyHash P (Str.ofString "ModuleNotFoundError"), key := Value.str (Str.ofString "ModuleNotFoundError") 136, val := Value.type "ModuleNotFoundError" }, { hash := PyData.keyHash P (Str.ofString "NotImplementedError"), key := Value.str (Str.ofString "NotImplementedError") 137, val := Value.type "NotImplementedError" }, { hash := PyData.keyHash P (Str.ofString "PythonFinalizationError"), key := Value.str (Str.ofString "PythonFinalizationError") 138, val := Value.type "PythonFinalizationError" }, { hash := PyData.keyHash P (Str.ofString "RecursionError"), key := Value.str (Str.ofString "RecursionError") 139, val := Value.type "RecursionError" }, { hash := PyData.keyHash P (Str.ofString "UnboundLocalError"), key := Value.str (Str.ofString "UnboundLocalError") 140, val := Value.type "UnboundLocalError" }, { hash := PyData.keyHash P (Str.ofString "UnicodeError"), key := Value.str (Str.ofString "UnicodeError") 141, val := Value.type "UnicodeError" }, { hash := PyData.keyHash P (Str.ofString "BrokenPipeError"), key := Value.str (Str.ofString "BrokenPipeError") 142, val := Value.type "BrokenPipeError" }, { hash := PyData.keyHash P (Str.ofString "ConnectionAbortedError"), key := Value.str (Str.ofString "ConnectionAbortedError") 143, val := Value.type "ConnectionAbortedError" }, { hash := PyData.keyHash P (Str.ofString "ConnectionRefusedError"), key := Value.str (Str.ofString "ConnectionRefusedError") 144, val := Value.type "ConnectionRefusedError" }, { hash := PyData.keyHash P (Str.ofString "ConnectionResetError"), key := Value.str (Str.ofString "ConnectionResetError") 145, val := Value.type "ConnectionResetError" }, { hash := PyData.keyHash P (Str.ofString "TabError"), key := Value.str (Str.ofString "TabError") 146, val := Value.type "TabError" }, { hash := PyData.keyHash P (Str.ofString "UnicodeDecodeError"), key := Value.str (Str.ofString "UnicodeDecodeError") 147, val := Value.type "UnicodeDecodeError" }, { hash := PyData.keyHash P (Str.ofString "UnicodeEncodeError"), key := Value.str (Str.ofString "UnicodeEncodeError") 148, val := Value.type "UnicodeEncodeError" }, { hash := PyData.keyHash P (Str.ofString "UnicodeTranslateError"), key := Value.str (Str.ofString "UnicodeTranslateError") 149, val := Value.type "UnicodeTranslateError" }, { hash := PyData.keyHash P (Str.ofString "ExceptionGroup"), key := Value.str (Str.ofString "ExceptionGroup") 150, val := Value.type "ExceptionGroup" }, { hash := PyData.keyHash P (Str.ofString "EnvironmentError"), key := Value.str (Str.ofString "EnvironmentError") 151, val := Value.type "OSError" }, { hash := PyData.keyHash P (Str.ofString "IOError"), key := Value.str (Str.ofString "IOError") 152, val := Value.type "OSError" }, { hash := PyData.keyHash P (Str.ofString "open"), key := Value.str (Str.ofString "open") 153, val := Value.builtin "open" }, { hash := PyData.keyHash P (Str.ofString "quit"), key := Value.str (Str.ofString "quit") 154, val := Value.builtin "builtins.quit#opaque" }, { hash := PyData.keyHash P (Str.ofString "exit"), key := Value.str (Str.ofString "exit") 155, val := Value.builtin "builtins.exit#opaque" }, { hash := PyData.keyHash P (Str.ofString "copyright"), key := Value.str (Str.ofString "copyright") 156, val := Value.builtin "builtins.copyright#opaque" }, { hash := PyData.keyHash P (Str.ofString "credits"), key := Value.str (Str.ofString "credits") 157, val := Value.builtin "builtins.credits#opaque" }, { hash := PyData.keyHash P (Str.ofString "license"), key := Value.str (Str.ofString "license") 158, val := Value.builtin "builtins.license#opaque" }, { hash := PyData.keyHash P (Str.ofString "help"), key := Value.str (Str.ofString "help") 159, val := Value.builtin "builtins.help#opaque" }] 159 }
noncomputable def hd.o_42 : Params → Obj := fun P => { cls := Value.type "dict", data := Data.dict #[{ hash := PyData.keyHash P (Str.ofString "builtins"), key := Value.str (Str.ofString "builtins") 162, val := Value.ref 4 }, { hash := PyData.keyHash P (Str.ofString "__main__"), key := Value.str (Str.ofString "__main__") 163, val := Value.ref 5 }, { hash := PyData.keyHash P (Str.ofString "_sre"), key := Value.str (Str.ofString "_sre") 244, val := Value.ref 12 }] 3 }
noncomputable def hd.o_43 : Params → Obj := fun P => { cls := Value.none, data := Data.dict #[{ hash := PyData.keyHash P (Str.ofString "\x69mport.loaded._sre"), key := Value.str (Str.ofString "\x69mport.loaded._sre") 183, val := Value.bool true }, { hash := PyData.keyHash P (Str.ofString "class._frozen_importlib.BuiltinImporter"), key := Value.str (Str.ofString "class._frozen_importlib.BuiltinImporter") 185, val := Value.ref 14 }, { hash := PyData.keyHash P (Str.ofString "watched.\x69mport"), key := Value.str (Str.ofString "watched.\x69mport") 206, val := Value.ref 18 }, { hash := PyData.keyHash P (Str.ofString "class._frozen_importlib.ModuleSpec"), key := Value.str (Str.ofString "class._frozen_importlib.ModuleSpec") 216, val := Value.ref 22 }, { hash := PyData.keyHash P (Str.ofString "sys.modules.booked-epoch"), key := Value.str (Str.ofString "sys.modules.booked-epoch") 245, val := Value.int 3 0 }, { hash := PyData.keyHash P (Str.ofString "\x69mport.later-laid._sre"), key := Value.str (Str.ofString "\x69mport.later-laid._sre") 270, val := Value.bool true }, { hash := PyData.keyHash P (Str.ofString "watched.library"), key := Value.str (Str.ofString "watched.library") 272, val := Value.ref 27 }, { hash := PyData.keyHash P (Str.ofString "watched.library-objects"), key := Value.str (Str.ofString "watched.library-objects") 0, val := Value.str (Str.ofString "\x0c") 0 }, { hash := PyData.keyHash P (Str.ofString "watched.library-deep._sre"), key := Value.str (Str.ofString "watched.library-deep._sre") 273, val := Value.str (Str.ofString "\x04\x00\x00\x0b\x04\x00\x00\x0b\x04\x00\x00\x03\x04\x00\x00\x0b\x08\x04dict\x02") 0 }] 9 }
noncomputable def hd.o_44 : Params → Obj := fun P => { cls := Value.type "dict", data := Data.dict #[{ hash := PyData.keyHash P (Str.ofString "__name__"), key := Value.str (Str.ofString "__name__") 165, val := Value.str (Str.ofString "__main__") 164 }, { hash := PyData.keyHash P (Str.ofString "__doc__"), key := Value.str (Str.ofString "__doc__") 166, val := Value.none }, { hash := PyData.keyHash P (Str.ofString "__package__"), key := Value.str (Str.ofString "__package__") 167, val := Value.none }, { hash := PyData.keyHash P (Str.ofString "__loader__"), key := Value.str (Str.ofString "__loader__") 168, val := Value.builtin "__main__.__loader__#opaque" }, { hash := PyData.keyHash P (Str.ofString "__spec__"), key := Value.str (Str.ofString "__spec__") 169, val := Value.none }, { hash := PyData.keyHash P (Str.ofString "__annotations__"), key := Value.str (Str.ofString "__annotations__") 170, val := Value.ref 6 }, { hash := PyData.keyHash P (Str.ofString "__builtins__"), key := Value.str (Str.ofString "__builtins__") 171, val := Value.ref 4 }, { hash := PyData.keyHash P (Str.ofString "__file__"), key := Value.str (Str.ofString "__file__") 173, val := Value.str (Str.ofString "/claim/cut.py") 172 }, { hash := PyData.keyHash P (Str.ofString "__cached__"), key := Value.str (Str.ofString "__cached__") 174, val := Value.none }, { hash := PyData.keyHash P (Str.ofString "_sre"), key := Value.str (Str.ofString "_sre") 275, val := Value.ref 12 }] 10 }
noncomputable def hd.o_45 : Params → Obj := fun P => { cls := Value.type "module", dict := some 0 }
noncomputable def hd.o_46 : Params → Obj := fun P => { cls := Value.type "module", dict := some 3 }
noncomputable def hd.o_47 : Params → Obj := fun P => { cls := Value.type "dict", data := Data.dict #[] }
noncomputable def hd.o_48 : Params → Obj := fun P => { cls := Value.type "tuple", data := Data.seq #[] }
noncomputable def hd.o_49 : Params → Obj := fun P => { cls := Value.none, data := Data.fields #[] }
noncomputable def hd.o_50 : Params → Obj := fun P => { cls := Value.type "code", data := Data.fields #[Value.str (Str.ofString "<module>") 176, Value.str (Str.ofString "<module>") 177, Value.str (Str.ofString "/claim/cut.py") 178, Value.int 1 0, Value.int 0 0, Value.int 0 0, Value.int 0 0, Value.int 0 0, Value.ref 7, Value.bool false, Value.int 175 0, Value.ref 8, Value.none, Value.none, Value.none, Value.none, Value.int 179 0, Value.int 1 0, Value.str (Str.ofString "/claim/cut.py") 180] }
noncomputable def hd.o_51 : Params → Obj := fun P => { cls := Value.type "frame", slots := #[some (Value.ref 9), some (Value.ref 3), some (Value.ref 3), none, some (Value.str (Str.ofString "__main__") 164), none, some (Value.ref 0)] }
noncomputable def hd.o_52 : Params → Obj := fun P => { cls := Value.type "dict", data := Data.dict #[{ hash := PyData.keyHash P (Str.ofString "__name__"), key := Value.str (Str.ofString "__name__") 247, val := Value.str (Str.ofString "_sre") 246 }, { hash := PyData.keyHash P (Str.ofString "__doc__"), key := Value.str (Str.ofString "__doc__") 248, val := Value.none }, { hash := PyData.keyHash P (Str.ofString "__package__"), key := Value.str (Str.ofString "__package__") 250, val := Value.str (Str.ofString "") 249 }, { hash := PyData.keyHash P (Str.ofString "__loader__"), key := Value.str (Str.ofString "__loader__") 251, val := Value.builtin "off-the-table:_sre.__loader__:shared#opaque" }, { hash := PyData.keyHash P (Str.ofString "__spec__"), key := Value.str (Str.ofString "__spec__") 252, val := Value.builtin "off-the-table:_sre.__spec__:shared#opaque" }, { hash := PyData.keyHash P (Str.ofString "compile"), key := Value.str (Str.ofString "compile") 253, val := Value.builtin "_sre.compile" }, { hash := PyData.keyHash P (Str.ofString "template"), key := Value.str (Str.ofString "template") 254, val := Value.builtin "off-the-table:_sre.template:shared#opaque" }, { hash := PyData.keyHash P (Str.ofString "getcodesize"), key := Value.str (Str.ofString "getcodesize") 255, val := Value.builtin "off-the-table:_sre.getcodesize:shared#opaque" }, { hash := PyData.keyHash P (Str.ofString "ascii_iscased"), key := Value.str (Str.ofString "ascii_iscased") 256, val := Value.builtin "off-the-table:_sre.ascii_iscased:shared#opaque" }, { hash := PyData.keyHash P (Str.ofString "unicode_iscased"), key := Value.str (Str.ofString "unicode_iscased") 257, val := Value.builtin "off-the-table:_sre.unicode_iscased:shared#opaque" }, { hash := PyData.keyHash P (Str.ofString "ascii_tolower"), key := Value.str (Str.ofString "ascii_tolower") 258, val := Value.builtin "off-the-table:_sre.ascii_tolower:shared#opaque" }, { hash := PyData.keyHash P (Str.ofString "unicode_tolower"), key := Value.str (Str.ofString "unicode_tolower") 259, val := Value.builtin "off-the-table:_sre.unicode_tolower:shared#opaque" }, { hash := PyData.keyHash P (Str.ofString "MAGIC"), key := Value.str (Str.ofString "MAGIC") 261, val := Value.int 20230612 260 }, { hash := PyData.keyHash P (Str.ofString "CODESIZE"), key := Value.str (Str.ofString "CODESIZE") 263, val := Value.int 4 262 }, { hash := PyData.keyHash P (Str.ofString "MAXREPEAT"), key := Value.str (Str.ofString "MAXREPEAT") 265, val := Value.int 4294967295 264 }, { hash := PyData.keyHash P (Str.ofString "MAXGROUPS"), key := Value.str (Str.ofString "MAXGROUPS") 267, val := Value.int 1073741823 266 }, { hash := PyData.keyHash P (Str.ofString "copyright"), key := Value.str (Str.ofString "copyright") 269, val := Value.str (Str.ofString " SRE 2.2.2 Copyright (c) 1997-2002 by Secret Labs AB ") 268 }] 17 }
noncomputable def hd.o_53 : Params → Obj := fun P => { cls := Value.type "module", dict := some 11 }
noncomputable def hd.o_54 : Params → Obj := fun P => { cls := Value.type "dict", data := Data.dict #[{ hash := PyData.keyHash P (Str.ofString "__module__"), key := Value.str (Str.ofString "__module__") 189, val := Value.str (Str.ofString "_frozen_importlib") 186 }, { hash := PyData.keyHash P (Str.ofString "__firstlineno__"), key := Value.str (Str.ofString "__firstlineno__") 190, val := Value.int 971 187 }, { hash := PyData.keyHash P (Str.ofString "__doc__"), key := Value.str (Str.ofString "__doc__") 191, val := Value.builtin "_frozen_importlib.BuiltinImporter.__doc__:str#opaque" }, { hash := PyData.keyHash P (Str.ofString "_ORIGIN"), key := Value.str (Str.ofString "_ORIGIN") 192, val := Value.str (Str.ofString "built-in") 188 }, { hash := PyData.keyHash P (Str.ofString "find_spec"), key := Value.str (Str.ofString "find_spec") 193, val := Value.builtin "_frozen_importlib.BuiltinImporter.find_spec#opaque" }, { hash := PyData.keyHash P (Str.ofString "create_module"), key := Value.str (Str.ofString "create_module") 194, val := Value.builtin "_frozen_importlib.BuiltinImporter.create_module#opaque" }, { hash := PyData.keyHash P (Str.ofString "exec_module"), key := Value.str (Str.ofString "exec_module") 195, val := Value.builtin "_frozen_importlib.BuiltinImporter.exec_module#opaque" }, { hash := PyData.keyHash P (Str.ofString "get_code"), key := Value.str (Str.ofString "get_code") 196, val := Value.builtin "_frozen_importlib.BuiltinImporter.get_code#opaque" }, { hash := PyData.keyHash P (Str.ofString "get_source"), key := Value.str (Str.ofString "get_source") 197, val := Value.builtin "_frozen_importlib.BuiltinImporter.get_source#opaque" }, { hash := PyData.keyHash P (Str.ofString "is_package"), key := Value.str (Str.ofString "is_package") 198, val := Value.builtin "_frozen_importlib.BuiltinImporter.is_package#opaque" }, { hash := PyData.keyHash P (Str.ofString "load_module"), key := Value.str (Str.ofString "load_module") 199, val := Value.builtin "_frozen_importlib.BuiltinImporter.load_module#opaque" }, { hash := PyData.keyHash P (Str.ofString "__static_attributes__"), key := Value.str (Str.ofString "__static_attributes__") 200, val := Value.ref 15 }, { hash := PyData.keyHash P (Str.ofString "__dict__"), key := Value.str (Str.ofString "__dict__") 202, val := Value.ref 16 }, { hash := PyData.keyHash P (Str.ofString "__weakref__"), key := Value.str (Str.ofString "__weakref__") 204, val := Value.ref 17 }] 14 }
noncomputable def hd.o_55 : Params → Obj := fun P => { cls := Value.type "type", data := Data.cls { name := Str.ofString "BuiltinImporter", bases := [Value.type "object"], mro := [Value.ref 14, Value.type "object"], ns := 13, qualname := Str.ofString "BuiltinImporter" } }
noncomputable def hd.o_56 : Params → Obj := fun P => { cls := Value.type "tuple", data := Data.seq #[] }
noncomputable def hd.o_57 : Params → Obj := fun P => { cls := Value.type "getset_descriptor", data := Data.fields #[Value.str (Str.ofString "__dict__") 201, Value.ref 14, Value.builtin "function.__dict__", Value.builtin "function.__dict__#set"] }
noncomputable def hd.o_58 : Params → Obj := fun P => { cls := Value.type "getset_descriptor", data := Data.fields #[Value.str (Str.ofString "__weakref__") 203, Value.ref 14, Value.builtin "ExceptionGroup.__weakref__", Value.none] }
noncomputable def hd.o_59 : Params → Obj := fun P => { cls := Value.none, data := Data.seq #[Value.int 13 0, Value.str (Str.ofString "\x06½\n__module__\x06º\x11_frozen_importlib\x06¾\x0f__firstlineno__\x04»\x00ϋ\x06¿\x07__doc__\t4_frozen_importlib.BuiltinImporter.__doc__:str#opaque\x06À\x07_ORIGIN\x06¼\x08built-in\x06Á\tfind_spec\t2_frozen_importlib.BuiltinImporter.find_spec#opaque\x06Â\x0dcreate_module\t6_frozen_importlib.BuiltinImporter.create_module#opaque\x06Ã\x0bexec_module\t4_frozen_importlib.BuiltinImporter.exec_module#opaque\x06Ä\x08get_code\t1_frozen_importlib.BuiltinImporter.get_code#opaque\x06Å\nget_source\t3_frozen_importlib.BuiltinImporter.get_source#opaque\x06Æ\nis_package\t3_frozen_importlib.BuiltinImporter.is_package#opaque\x06Ç\x0bload_module\t4_frozen_importlib.BuiltinImporter.load_module#opaque\x06È\x15__static_attributes__\x04\x00\x00\x0f\x06Ê\x08__dict__\x04\x00\x00\x10\x06Ì\x0b__weakref__\x04\x00\x00\x11") 0, Value.bool true, Value.bool true, Value.str (Str.ofString "") 205, Value.int 21 0, Value.str (Str.ofString "\x06ã\n__module__\x06Ù\x11_frozen_importlib\x06ä\x0f__firstlineno__\x04Ú\x00Ȳ\x06å\x07__doc__\t/_frozen_importlib.ModuleSpec.__doc__:str#opaque\x06æ\x08__init__\t,_frozen_importlib.ModuleSpec.__init__#opaque\x06ç\x08__repr__\t,_frozen_importlib.ModuleSpec.__repr__#opaque\x06è\x06__eq__\t*_frozen_importlib.ModuleSpec.__eq__#opaque\x06é\x06cached\t*_frozen_importlib.ModuleSpec.cached#opaque\x06ê\x06parent\t*_frozen_importlib.ModuleSpec.parent#opaque\x06ë\x0chas_location\t0_frozen_importlib.ModuleSpec.has_location#opaque\x06ì\x15__static_attributes__\x04\x00\x00\x17\x06î\x08__dict__\x04\x00\x00\x18\x06ð\x0b__weakref__\x04\x00\x00\x19\x06ñ\x08__hash__\x00") 0, Value.bool true, Value.bool true, Value.str (Str.ofString "") 242] 1 }
noncomputable def hd.o_60 : Params → Obj := fun P => { cls := Value.type "list", data := Data.seq #[] }
noncomputable def hd.o_61 : Params → Obj := fun P => { cls := Value.type "dict", data := Data.dict #[{ hash := PyData.keyHash P (Str.ofString "name"), key := Value.str (Str.ofString "name") 208, val := Value.str (Str.ofString "_sre") 207 }, { hash := PyData.keyHash P (Str.ofString "loader"), key := Value.str (Str.ofString "loader") 209, val := Value.ref 14 }, { hash := PyData.keyHash P (Str.ofString "origin"), key := Value.str (Str.ofString "origin") 210, val := Value.str (Str.ofString "built-in") 184 }, { hash := PyData.keyHash P (Str.ofString "loader_state"), key := Value.str (Str.ofString "loader_state") 211, val := Value.none }, { hash := PyData.keyHash P (Str.ofString "submodule_search_locations"), key := Value.str (Str.ofString "submodule_search_locations") 212, val := Value.none }, { hash := PyData.keyHash P (Str.ofString "_uninitialized_submodules"), key := Value.str (Str.ofString "_uninitialized_submodules") 213, val := Value.ref 19 }, { hash := PyData.keyHash P (Str.ofString "_set_fileattr"), key := Value.str (Str.ofString "_set_fileattr") 214, val := Value.bool false }, { hash := PyData.keyHash P (Str.ofString "_cached"), key := Value.str (Str.ofString "_cached") 215, val := Value.none }, { hash := PyData.keyHash P (Str.ofString "_initializing"), key := Value.str (Str.ofString "_initializing") 243, val := Value.bool false }] 9 }
noncomputable def hd.o_62 : Params → Obj := fun P => { cls := Value.type "dict", data := Data.dict #[{ hash := PyData.keyHash P (Str.ofString "__module__"), key := Value.str (Str.ofString "__module__") 227, val := Value.str (Str.ofString "_frozen_importlib") 217 }, { hash := PyData.keyHash P (Str.ofString "__firstlineno__"), key := Value.str (Str.ofString "__firstlineno__") 228, val := Value.int 562 218 }, { hash := PyData.keyHash P (Str.ofString "__doc__"), key := Value.str (Str.ofString "__doc__") 229, val := Value.builtin "_frozen_importlib.ModuleSpec.__doc__:str#opaque" }, { hash := PyData.keyHash P (Str.ofString "__init__"), key := Value.str (Str.ofString "__init__") 230, val := Value.builtin "_frozen_importlib.ModuleSpec.__init__#opaque" }, { hash := PyData.keyHash P (Str.ofString "__repr__"), key := Value.str (Str.ofString "__repr__") 231, val := Value.builtin "_frozen_importlib.ModuleSpec.__repr__#opaque" }, { hash := PyData.keyHash P (Str.ofString "__eq__"), key := Value.str (Str.ofString "__eq__") 232, val := Value.builtin "_frozen_importlib.ModuleSpec.__eq__#opaque" }, { hash := PyData.keyHash P (Str.ofString "cached"), key := Value.str (Str.ofString "cached") 233, val := Value.builtin "_frozen_importlib.ModuleSpec.cached#opaque" }, { hash := PyData.keyHash P (Str.ofString "parent"), key := Value.str (Str.ofString "parent") 234, val := Value.builtin "_frozen_importlib.ModuleSpec.parent#opaque" }, { hash := PyData.keyHash P (Str.ofString "has_location"), key := Value.str (Str.ofString "has_location") 235, val := Value.builtin "_frozen_importlib.ModuleSpec.has_location#opaque" }, { hash := PyData.keyHash P (Str.ofString "__static_attributes__"), key := Value.str (Str.ofString "__static_attributes__") 236, val := Value.ref 23 }, { hash := PyData.keyHash P (Str.ofString "__dict__"), key := Value.str (Str.ofString "__dict__") 238, val := Value.ref 24 }, { hash := PyData.keyHash P (Str.ofString "__weakref__"), key := Value.str (Str.ofString "__weakref__") 240, val := Value.ref 25 }, { hash := PyData.keyHash P (Str.ofString "__hash__"), key := Value.str (Str.ofString "__hash__") 241, val := Value.none }] 13 }
noncomputable def hd.o_63 : Params → Obj := fun P => { cls := Value.type "type", data := Data.cls { name := Str.ofString "ModuleSpec", bases := [Value.type "object"], mro := [Value.ref 22, Value.type "object"], ns := 21, qualname := Str.ofString "ModuleSpec" } }
noncomputable def hd.o_64 : Params → Obj := fun P => { cls := Value.type "tuple", data := Data.seq #[Value.str (Str.ofString "_cached") 219, Value.str (Str.ofString "_set_fileattr") 220, Value.str (Str.ofString "_uninitialized_submodules") 221, Value.str (Str.ofString "loader") 222, Value.str (Str.ofString "loader_state") 223, Value.str (Str.ofString "name") 224, Value.str (Str.ofString "origin") 225, Value.str (Str.ofString "submodule_search_locations") 226] }
noncomputable def hd.o_65 : Params → Obj := fun P => { cls := Value.type "getset_descriptor", data := Data.fields #[Value.str (Str.ofString "__dict__") 237, Value.ref 22, Value.builtin "function.__dict__", Value.builtin "function.__dict__#set"] }
noncomputable def hd.o_66 : Params → Obj := fun P => { cls := Value.type "getset_descriptor", data := Data.fields #[Value.str (Str.ofString "__weakref__") 239, Value.ref 22, Value.builtin "ExceptionGroup.__weakref__", Value.none] }
noncomputable def hd.o_67 : Params → Obj := fun P => { cls := Value.ref 22, dict := some 20 }
noncomputable def hd.o_68 : Params → Obj := fun P => { cls := Value.none, data := Data.seq #[Value.int 11 0, Value.str { cps := #[6, 247, 8, 95, 95, 110, 97, 109, 101, 95, 95, 6, 246, 4, 95, 115, 114, 101, 6, 248, 7, 95, 95, 100, 111, 99, 95, 95, 0, 6, 250, 11, 95, 95, 112, 97, 99, 107, 97, 103, 101, 95, 95, 6, 249, 0, 6, 251, 10, 95, 95, 108, 111, 97, 100, 101, 114, 95, 95, 4, 0, 0, 14, 6, 252, 8, 95, 95, 115, 112, 101, 99, 95, 95, 4, 0, 0, 26, 6, 253, 7, 99, 111, 109, 112, 105, 108, 101, 9, 12, 95, 115, 114, 101, 46, 99, 111, 109, 112, 105, 108, 101, 6, 254, 8, 116, 101, 109, 112, 108, 97, 116, 101, 9, 13, 95, 115, 114, 101, 46, 116, 101, 109, 112, 108, 97, 116, 101, 6, 255, 11, 103, 101, 116, 99, 111, 100, 101, 115, 105, 122, 101, 9, 16, 95, 115, 114, 101, 46, 103, 101, 116, 99, 111, 100, 101, 115, 105, 122, 101, 6, 256, 13, 97, 115, 99, 105, 105, 95, 105, 115, 99, 97, 115, 101, 100, 9, 18, 95, 115, 114, 101, 46, 97, 115, 99, 105, 105, 95, 105, 115, 99, 97, 115, 101, 100, 6, 257, 15, 117, 110, 105, 99, 111, 100, 101, 95, 105, 115, 99, 97, 115, 101, 100, 9, 20, 95, 115, 114, 101, 46, 117, 110, 105, 99, 111, 100, 101, 95, 105, 115, 99, 97, 115, 101, 100, 6, 258, 13, 97, 115, 99, 105, 105, 95, 116, 111, 108, 111, 119, 101, 114, 9, 18, 95, 115, 114, 101, 46, 97, 115, 99, 105, 105, 95, 116, 111, 108, 111, 119, 101, 114, 6, 259, 15, 117, 110, 105, 99, 111, 100, 101, 95, 116, 111, 108, 111, 119, 101, 114, 9, 20, 95, 115, 114, 101, 46, 117, 110, 105, 99, 111, 100, 101, 95, 116, 111, 108, 111, 119, 101, 114, 6, 261, 5, 77, 65, 71, 73, 67, 4, 260, 0, 20230612, 6, 263, 8, 67, 79, 68, 69, 83, 73, 90, 69, 4, 262, 0, 4, 6, 265, 9, 77, 65, 88, 82, 69, 80, 69, 65, 84, 4, 264, 0, 4294967295, 6, 267, 9, 77, 65, 88, 71, 82, 79, 85, 80, 83, 4, 266, 0, 1073741823, 6, 269, 9, 99, 111, 112, 121, 114, 105, 103, 104, 116, 6, 268, 53, 32, 83, 82, 69, 32, 50, 46, 50, 46, 50, 32, 67, 111, 112, 121, 114, 105, 103, 104, 116, 32, 40, 99, 41, 32, 49, 57, 57, 55, 45, 50, 48, 48, 50, 32, 98, 121, 32, 83, 101, 99, 114, 101, 116, 32, 76, 97, 98, 115, 32, 65, 66, 32] } 0, Value.bool true, Value.bool false, Value.str (Str.ofString "_sre") 271] }
noncomputable def hd.o_69 : Params → Obj := fun P => { cls := Value.type "tuple", data := Data.seq #[] }
noncomputable def hd.o_70 : Params → Obj := fun P => { cls := Value.none, data := Data.fields #[] }
noncomputable def hd.o_71 : Params → Obj := fun P => { cls := Value.type "code", data := Data.fields #[Value.str (Str.ofString "<module>") 277, Value.str (Str.ofString "<module>") 278, Value.str (Str.ofString "/claim/cut.py") 279, Value.int 1 0, Value.int 0 0, Value.int 0 0, Value.int 0 0, Value.int 0 0, Value.ref 28, Value.bool false, Value.int 276 0, Value.ref 29, Value.none, Value.none, Value.none, Value.none, Value.int 280 0, Value.int 1 0, Value.str (Str.ofString "/claim/cut.py") 281] }
noncomputable def hd.o_72 : Params → Obj := fun P => { cls := Value.type "frame", slots := #[some (Value.ref 30), some (Value.ref 3), some (Value.ref 3), none, some (Value.str (Str.ofString "__main__") 164), none, some (Value.ref 0)] }
noncomputable def hd.o_75 : Params → Obj := fun P => { cls := Value.type "dict", data := Data.dict #[{ hash := PyData.keyHash P (Str.ofString "__name__"), key := Value.str (Str.ofString "__name__") 165, val := Value.str (Str.ofString "icalendar.caselessdict") 330 }, { hash := PyData.keyHash P (Str.ofString "__doc__"), key := Value.str (Str.ofString "__doc__") 166, val := Value.none }, { hash := PyData.keyHash P (Str.ofString "__package__"), key := Value.str (Str.ofString "__package__") 167, val := Value.none }, { hash := PyData.keyHash P (Str.ofString "__loader__"), key := Value.str (Str.ofString "__loader__") 168, val := Value.builtin "__main__.__loader__#opaque" }, { hash := PyData.keyHash P (Str.ofString "__spec__"), key := Value.str (Str.ofString "__spec__") 169, val := Value.none }, { hash := PyData.keyHash P (Str.ofString "__annotations__"), key := Value.str (Str.ofString "__annotations__") 170, val := Value.ref 6 }, { hash := PyData.keyHash P (Str.ofString "__builtins__"), key := Value.str (Str.ofString "__builtins__") 171, val := Value.ref 4 }, { hash := PyData.keyHash P (Str.ofString "__file__"), key := Value.str (Str.ofString "__file__") 173, val := Value.str (Str.ofString "/claim/cut.py") 172 }, { hash := PyData.keyHash P (Str.ofString "__cached__"), key := Value.str (Str.ofString "__cached__") 174, val := Value.none }, { hash := PyData.keyHash P (Str.ofString "_sre"), key := Value.str (Str.ofString "_sre") 275, val := Value.ref 12 }, { hash := PyData.keyHash P (Str.ofString "_wall"), key := Value.str (Str.ofString "_wall") 288, val := Value.ref 38 }, { hash := PyData.keyHash P (Str.ofString "SEQUENCE_TYPES"), key := Value.str (Str.ofString "SEQUENCE_TYPES") 291, val := Value.ref 39 }, { hash := PyData.keyHash P (Str.ofString "DEFAULT_ENCODING"), key := Value.str (Str.ofString "DEFAULT_ENCODING") 293, val := Value.str (Str.ofString "utf-8") 292 }, { hash := PyData.keyHash P (Str.ofString "to_unicode"), key := Value.str (Str.ofString "to_unicode") 302, val := Value.ref 47 }, { hash := PyData.keyHash P (Str.ofString "_escape_char"), key := Value.str (Str.ofString "_escape_char") 311, val := Value.ref 54 }, { hash := PyData.keyHash P (Str.ofString "_unescape_char"), key := Value.str (Str.ofString "_unescape_char") 318, val := Value.ref 61 }, { hash := PyData.keyHash P (Str.ofString "unescape_backslash"), key := Value.str (Str.ofString "unescape_backslash") 329, val := Value.ref 68 }] 17 }
noncomputable def hd.o_108 : Params → Obj := fun P => { cls := Value.none, data := Data.fields #[] }
noncomputable def hd.o_92 : Params → Obj := fun P => { cls := Value.type "function", data := Data.func { name := Str.ofString "to_unicode", qualname := Str.ofString "to_unicode", params := (fa [5]), body := FuncBody.stmts (fb [5]), scope := (fs [5]), globals := 3, closure := [], defaults := Value.ref 40, kwdefaults := Value.none, pyModule := Value.str (Str.ofString "icalendar.parser_tools") 289, code := Value.ref 46 } }
noncomputable def hd.o_84 : Params → Obj := fun P => { cls := Value.type "tuple", data := Data.seq #[Value.type "list", Value.type "tuple"] }
noncomputable def hd.o_100 : Params → Obj := fun P => { cls := Value.type "tuple", data := Data.seq #[] }
noncomputable def hd.o_80 : Params → Obj := fun P => { cls := Value.type "tuple", data := Data.seq #[] }
noncomputable def hd.o_112 : Params → Obj := fun P => { cls := Value.type "code", data := Data.fields #[Value.str (Str.ofString "unescape_backslash") 321, Value.str (Str.ofString "unescape_backslash") 322, Value.str (Str.ofString "/claim/cut.py") 323, Value.int 28 0, Value.int 1 0, Value.int 0 0, Value.int 0 0, Value.int 3 0, Value.ref 62, Value.bool true, Value.int 276 0, Value.ref 63, Value.none, Value.ref 64, Value.ref 65, Value.ref 66, Value.int 327 0, Value.int 28 0, Value.str (Str.ofString "/claim/cut.py") 328] }
noncomputable def hd.o_96 : Params → Obj := fun P => { cls := Value.type "tuple", data := Data.seq #[] }
noncomputable def hd.o_88 : Params → Obj := fun P => { cls := Value.type "tuple", data := Data.seq #[Value.str (Str.ofString "value") 298, Value.str (Str.ofString "encoding") 299] }
noncomputable def hd.o_104 : Params → Obj := fun P => { cls := Value.none, data := Data.func { name := Str.ofString "_unescape_char", qualname := Str.ofString "_unescape_char", params := (fa [8]), body := FuncBody.stmts (fb [8]), scope := (fs [8]), globals := 0, closure := [], defaults := Value.none, kwdefaults := Value.none } }
noncomputable def hd.o_78 : Params → Obj := fun P => { cls := Value.none, data := Data.fields #[] }
noncomputable def hd.o_110 : Params → Obj := fun P => { cls := Value.type "tuple", data := Data.seq #[] }
noncomputable def hd.o_94 : Params → Obj := fun P => { cls := Value.none, data := Data.fields #[] }
noncomputable def hd.o_86 : Params → Obj := fun P => { cls := Value.type "tuple", data := Data.seq #[] }
noncomputable def hd.o_102 : Params → Obj := fun P => { cls := Value.type "tuple", data := Data.seq #[Value.str (Str.ofString "text") 315] }
noncomputable def hd.o_82 : Params → Obj := fun P => { cls := Value.type "code", data := Data.fields #[Value.str (Str.ofString "_wall") 282, Value.str (Str.ofString "_wall") 283, Value.str (Str.ofString "/claim/cut.py") 284, Value.int 2 0, Value.int 1 0, Value.int 0 0, Value.int 0 0, Value.int 3 0, Value.ref 32, Value.bool true, Value.int 276 0, Value.ref 33, Value.none, Value.ref 34, Value.ref 35, Value.ref 36, Value.int 286 0, Value.int 2 0, Value.str (Str.ofString "/claim/cut.py") 287] }
noncomputable def hd.o_98 : Params → Obj := fun P => { cls := Value.type "code", data := Data.fields #[Value.str (Str.ofString "_escape_char") 305, Value.str (Str.ofString "_escape_char") 306, Value.str (Str.ofString "/claim/cut.py") 307, Value.int 16 0, Value.int 1 0, Value.int 0 0, Value.int 0 0, Value.int 3 0, Value.ref 48, Value.bool true, Value.int 276 0, Value.ref 49, Value.none, Value.ref 50, Value.ref 51, Value.ref 52, Value.int 309 0, Value.int 16 0, Value.str (Str.ofString "/claim/cut.py") 310] }
noncomputable def hd.o_76 : Params → Obj := fun P => { cls := Value.none, data := Data.fields #[Value.int 2 0, Value.int 0 0, Value.ref 37, Value.int 8 0, Value.int 0 0, Value.ref 46, Value.int 16 0, Value.int 0 0, Value.ref 53, Value.int 20 0, Value.int 0 0, Value.ref 60, Value.int 28 0, Value.int 0 0, Value.ref 67] }
noncomputable def hd.o_90 : Params → Obj := fun P => { cls := Value.none, data := Data.func { name := Str.ofString "to_unicode", qualname := Str.ofString "to_unicode", params := (fa [5]), body := FuncBody.stmts (fb [5]), scope := (fs [5]), globals := 0, closure := [], defaults := Value.none, kwdefaults := Value.none } }
noncomputable def hd.o_106 : Params → Obj := fun P => { cls := Value.type "function", data := Data.func { name := Str.ofString "_unescape_char", qualname := Str.ofString "_unescape_char", params := (fa [8]), body := FuncBody.stmts (fb [8]), scope := (fs [8]), globals := 3, closure := [], defaults := Value.none, kwdefaults := Value.none, pyModule := Value.str (Str.ofString "icalendar.parser.string") 303, code := Value.ref 60 } }
noncomputable def hd.o_77 : Params → Obj := fun P => { cls := Value.type "tuple", data := Data.seq #[] }
noncomputable def hd.o_109 : Params → Obj := fun P => { cls := Value.type "tuple", data := Data.seq #[Value.str (Str.ofString "val") 324, Value.str (Str.ofString "result") 325, Value.str (Str.ofString "i") 326] }
noncomputable def hd.o_93 : Params → Obj := fun P => { cls := Value.type "tuple", data := Data.seq #[] }
noncomputable def hd.o_85 : Params → Obj := fun P => { cls := Value.type "tuple", data := Data.seq #[Value.str (Str.ofString "utf-8-sig") 294] }
noncomputable def hd.o_101 : Params → Obj := fun P => { cls := Value.none, data := Data.fields #[] }
noncomputable def hd.o_81 : Params → Obj := fun P => { cls := Value.none, data := Data.func { name := Str.ofString "_wall", qualname := Str.ofString "_wall", params := (fa [1]), body := FuncBody.stmts (fb [1]), scope := (fs [1]), globals := 0, closure := [], defaults := Value.none, kwdefaults := Value.none } }
noncomputable def hd.o_113 : Params → Obj := fun P => { cls := Value.type "function", data := Data.func { name := Str.ofString "unescape_backslash", qualname := Str.ofString "unescape_backslash", params := (fa [10]), body := FuncBody.stmts (fb [10]), scope := (fs [10]), globals := 3, closure := [], defaults := Value.none, kwdefaults := Value.none, pyModule := Value.str (Str.ofString "icalendar.parser.property") 319, code := Value.ref 67 } }
noncomputable def hd.o_97 : Params → Obj := fun P => { cls := Value.none, data := Data.func { name := Str.ofString "_escape_char", qualname := Str.ofString "_escape_char", params := (fa [7]), body := FuncBody.stmts (fb [7]), scope := (fs [7]), globals := 0, closure := [], defaults := Value.none, kwdefaults := Value.none } }
noncomputable def hd.o_89 : Params → Obj := fun P => { cls := Value.type "tuple", data := Data.seq #[] }
noncomputable def hd.o_105 : Params → Obj := fun P => { cls := Value.type "code", data := Data.fields #[Value.str (Str.ofString "_unescape_char") 312, Value.str (Str.ofString "_unescape_char") 313, Value.str (Str.ofString "/claim/cut.py") 314, Value.int 20 0, Value.int 1 0, Value.int 0 0, Value.int 0 0, Value.int 3 0, Value.ref 55, Value.bool true, Value.int 276 0, Value.ref 56, Value.none, Value.ref 57, Value.ref 58, Value.ref 59, Value.int 316 0, Value.int 20 0, Value.str (Str.ofString "/claim/cut.py") 317] }
noncomputable def hd.o_79 : Params → Obj := fun P => { cls := Value.type "tuple", data := Data.seq #[Value.str (Str.ofString "k") 285] }
noncomputable def hd.o_111 : Params → Obj := fun P => { cls := Value.none, data := Data.func { name := Str.ofString "unescape_backslash", qualname := Str.ofString "unescape_backslash", params := (fa [10]), body := FuncBody.stmts (fb [10]), scope := (fs [10]), globals := 0, closure := [], defaults := Value.none, kwdefaults := Value.none } }
noncomputable def hd.o_95 : Params → Obj := fun P => { cls := Value.type "tuple", data := Data.seq #[Value.str (Str.ofString "text") 308] }
noncomputable def hd.o_87 : Params → Obj := fun P => { cls := Value.none, data := Data.fields #[] }
noncomputable def hd.o_103 : Params → Obj := fun P => { cls := Value.type "tuple", data := Data.seq #[] }
noncomputable def hd.o_83 : Params → Obj := fun P => { cls := Value.type "function", data := Data.func { name := Str.ofString "_wall", qualname := Str.ofString "_wall", params := (fa [1]), body := FuncBody.stmts (fb [1]), scope := (fs [1]), globals := 3, closure := [], defaults := Value.none, kwdefaults := Value.none, pyModule := Value.str (Str.ofString "__main__") 164, code := Value.ref 37 } }
noncomputable def hd.o_99 : Params → Obj := fun P => { cls := Value.type "function", data := Data.func { name := Str.ofString "_escape_char", qualname := Str.ofString "_escape_char", params := (fa [7]), body := FuncBody.stmts (fb [7]), scope := (fs [7]), globals := 3, closure := [], defaults := Value.none, kwdefaults := Value.none, pyModule := Value.str (Str.ofString "icalendar.parser.string") 303, code := Value.ref 53 } }
noncomputable def hd.o_91 : Params → Obj := fun P => { cls := Value.type "code", data := Data.fields #[Value.str (Str.ofString "to_unicode") 295, Value.str (Str.ofString "to_unicode") 296, Value.str (Str.ofString "/claim/cut.py") 297, Value.int 8 0, Value.int 2 0, Value.int 0 0, Value.int 0 0, Value.int 3 0, Value.ref 41, Value.bool true, Value.int 276 0, Value.ref 42, Value.none, Value.ref 43, Value.ref 44, Value.ref 45, Value.int 300 0, Value.int 8 0, Value.str (Str.ofString "/claim/cut.py") 301] }
noncomputable def hd.o_107 : Params → Obj := fun P => { cls := Value.type "tuple", data := Data.seq #[] }
noncomputable def hd.o_114 : Params → Obj := fun P => { cls := Value.type "dict", data := Data.dict #[{ hash := PyData.keyHash P (Str.ofString "__name__"), key := Value.str (Str.ofString "__name__") 165, val := Value.str (Str.ofString "icalendar.caselessdict") 330 }, { hash := PyData.keyHash P (Str.ofString "__doc__"), key := Value.str (Str.ofString "__doc__") 166, val := Value.none }, { hash := PyData.keyHash P (Str.ofString "__package__"), key := Value.str (Str.ofString "__package__") 167, val := Value.none }, { hash := PyData.keyHash P (Str.ofString "__loader__"), key := Value.str (Str.ofString "__loader__") 168, val := Value.builtin "__main__.__loader__#opaque" }, { hash := PyData.keyHash P (Str.ofString "__spec__"), key := Value.str (Str.ofString "__spec__") 169, val := Value.none }, { hash := PyData.keyHash P (Str.ofString "__annotations__"), key := Value.str (Str.ofString "__annotations__") 170, val := Value.ref 6 }, { hash := PyData.keyHash P (Str.ofString "__builtins__"), key := Value.str (Str.ofString "__builtins__") 171, val := Value.ref 4 }, { hash := PyData.keyHash P (Str.ofString "__file__"), key := Value.str (Str.ofString "__file__") 173, val := Value.str (Str.ofString "/claim/cut.py") 172 }, { hash := PyData.keyHash P (Str.ofString "__cached__"), key := Value.str (Str.ofString "__cached__") 174, val := Value.none }, { hash := PyData.keyHash P (Str.ofString "_sre"), key := Value.str (Str.ofString "_sre") 275, val := Value.ref 12 }, { hash := PyData.keyHash P (Str.ofString "_wall"), key := Value.str (Str.ofString "_wall") 288, val := Value.ref 38 }, { hash := PyData.keyHash P (Str.ofString "SEQUENCE_TYPES"), key := Value.str (Str.ofString "SEQUENCE_TYPES") 291, val := Value.ref 39 }, { hash := PyData.keyHash P (Str.ofString "DEFAULT_ENCODING"), key := Value.str (Str.ofString "DEFAULT_ENCODING") 293, val := Value.str (Str.ofString "utf-8") 292 }, { hash := PyData.keyHash P (Str.ofString "to_unicode"), key := Value.str (Str.ofString "to_unicode") 302, val := Value.ref 47 }, { hash := PyData.keyHash P (Str.ofString "_escape_char"), key := Value.str (Str.ofString "_escape_char") 311, val := Value.ref 54 }, { hash := PyData.keyHash P (Str.ofString "_unescape_char"), key := Value.str (Str.ofString "_unescape_char") 318, val := Value.ref 61 }, { hash := PyData.keyHash P (Str.ofString "unescape_backslash"), key := Value.str (Str.ofString "unescape_backslash") 329, val := Value.ref 68 }, { hash := PyData.keyHash P (Str.ofString "CaselessDict"), key := Value.str (Str.ofString "CaselessDict") 489, val := Value.ref 195 }] 18 }
noncomputable def hd.o_174 : Params → Obj := fun P => { cls := Value.type "tuple", data := Data.seq #[Value.ref 72] }
noncomputable def hd.o_238 : Params → Obj := fun P => { cls := Value.type "code", data := Data.fields #[Value.str (Str.ofString "sorted_items") 473, Value.str (Str.ofString "CaselessDict.sorted_items") 474, Value.str (Str.ofString "/claim/cut.py") 475, Value.int 100 0, Value.int 1 0, Value.int 0 0, Value.int 0 0, Value.int 3 0, Value.ref 186, Value.bool true, Value.int 276 0, Value.ref 187, Value.none, Value.ref 188, Value.ref 189, Value.ref 190, Value.int 477 0, Value.int 100 0, Value.str (Str.ofString "/claim/cut.py") 478] }
noncomputable def hd.o_142 : Params → Obj := fun P => { cls := Value.none, data := Data.fields #[] }
noncomputable def hd.o_206 : Params → Obj := fun P => { cls := Value.none, data := Data.fields #[] }
noncomputable def hd.o_126 : Params → Obj := fun P => { cls := Value.none, data := Data.fields #[] }
noncomputable def hd.o_190 : Params → Obj := fun P => { cls := Value.type "function", data := Data.func { name := Str.ofString "pop", qualname := Str.ofString "CaselessDict.pop", params := (fa [12, 7]), body := FuncBody.stmts (fb [12, 7]), scope := (fs [12, 5]), globals := 3, closure := [(Str.ofString "__class__", 72)], defaults := Value.ref 135, kwdefaults := Value.none, pyModule := Value.str (Str.ofString "icalendar.caselessdict") 330, code := Value.ref 142, closureTuple := Value.ref 136 } }
noncomputable def hd.o_158 : Params → Obj := fun P => { cls := Value.none, data := Data.fields #[] }
noncomputable def hd.o_222 : Params → Obj := fun P => { cls := Value.type "tuple", data := Data.seq #[] }
noncomputable def hd.o_118 : Params → Obj := fun P => { cls := Value.type "dict", data := Data.dict #[{ hash := PyData.keyHash P (Str.ofString "__module__"), key := Value.str (Str.ofString "__module__") 339, val := Value.str (Str.ofString "icalendar.caselessdict") 330 }, { hash := PyData.keyHash P (Str.ofString "__qualname__"), key := Value.str (Str.ofString "__qualname__") 341, val := Value.str (Str.ofString "CaselessDict") 340 }, { hash := PyData.keyHash P (Str.ofString "__firstlineno__"), key := Value.str (Str.ofString "__firstlineno__") 343, val := Value.int 40 342 }, { hash := PyData.keyHash P (Str.ofString "__init__"), key := Value.str (Str.ofString "__init__") 353, val := Value.ref 84 }, { hash := PyData.keyHash P (Str.ofString "__getitem__"), key := Value.str (Str.ofString "__getitem__") 362, val := Value.ref 92 }, { hash := PyData.keyHash P (Str.ofString "__setitem__"), key := Value.str (Str.ofString "__setitem__") 372, val := Value.ref 100 }, { hash := PyData.keyHash P (Str.ofString "__delitem__"), key := Value.str (Str.ofString "__delitem__") 381, val := Value.ref 108 }, { hash := PyData.keyHash P (Str.ofString "__contains__"), key := Value.str (Str.ofString "__contains__") 390, val := Value.ref 116 }, { hash := PyData.keyHash P (Str.ofString "get"), key := Value.str (Str.ofString "get") 400, val := Value.ref 125 }, { hash := PyData.keyHash P (Str.ofString "setdefault"), key := Value.str (Str.ofString "setdefault") 410, val := Value.ref 134 }, { hash := PyData.keyHash P (Str.ofString "pop"), key := Value.str (Str.ofString "pop") 420, val := Value.ref 143 }, { hash := PyData.keyHash P (Str.ofString "popitem"), key := Value.str (Str.ofString "popitem") 427, val := Value.ref 150 }, { hash := PyData.keyHash P (Str.ofString "has_key"), key := Value.str (Str.ofString "has_key") 435, val := Value.ref 157 }, { hash := PyData.keyHash P (Str.ofString "update"), key := Value.str (Str.ofString "update") 448, val := Value.ref 164 }, { hash := PyData.keyHash P (Str.ofString "__eq__"), key := Value.str (Str.ofString "__eq__") 456, val := Value.ref 171 }, { hash := PyData.keyHash P (Str.ofString "__ne__"), key := Value.str (Str.ofString "__ne__") 464, val := Value.ref 178 }, { hash := PyData.keyHash P (Str.ofString "canonical_order"), key := Value.str (Str.ofString "canonical_order") 465, val := Value.none }, { hash := PyData.keyHash P (Str.ofString "sorted_keys"), key := Value.str (Str.ofString "sorted_keys") 472, val := Value.ref 185 }, { hash := PyData.keyHash P (Str.ofString "sorted_items"), key := Value.str (Str.ofString "sorted_items") 479, val := Value.ref 192 }, { hash := PyData.keyHash P (Str.ofString "__static_attributes__"), key := Value.str (Str.ofString "__static_attributes__") 480, val := Value.ref 193 }, { hash := PyData.keyHash P (Str.ofString "__classcell__"), key := Value.str (Str.ofString "__classcell__") 481, val := Value.ref 72 }] 21 }
noncomputable def hd.o_182 : Params → Obj := fun P => { cls := Value.type "tuple", data := Data.seq #[Value.none] }
noncomputable def hd.o_246 : Params → Obj := fun P => { cls := Value.type "builtin_function_or_method", data := Data.fields #[Value.builtin "object.__init_subclass__", Value.ref 195] }
noncomputable def hd.o_150 : Params → Obj := fun P => { cls := Value.none, data := Data.fields #[] }
noncomputable def hd.o_214 : Params → Obj := fun P => { cls := Value.type "tuple", data := Data.seq #[Value.str (Str.ofString "self") 452, Value.str (Str.ofString "other") 453] }
noncomputable def hd.o_134 : Params → Obj := fun P => { cls := Value.none, data := Data.fields #[] }
noncomputable def hd.o_198 : Params → Obj := fun P => { cls := Value.type "tuple", data := Data.seq #[] }
noncomputable def hd.o_166 : Params → Obj := fun P => { cls := Value.type "tuple", data := Data.seq #[Value.str (Str.ofString "__class__") 394] }
noncomputable def hd.o_230 : Params → Obj := fun P => { cls := Value.none, data := Data.func { name := Str.ofString "sorted_keys", qualname := Str.ofString "CaselessDict.sorted_keys", params := (fa [12, 14]), body := FuncBody.stmts (fb [12, 14]), scope := (fs [12, 8]), globals := 0, closure := [], defaults := Value.none, kwdefaults := Value.none } }
noncomputable def hd.o_178 : Params → Obj := fun P => { cls := Value.type "tuple", data := Data.seq #[] }
noncomputable def hd.o_242 : Params → Obj := fun P => { cls := Value.type "type", data := Data.cls { name := Str.ofString "CaselessDict", bases := [Value.type "dict"], mro := [Value.ref 195, Value.type "dict", Value.type "object"], ns := 194, qualname := Str.ofString "CaselessDict" }, slots := #[some (Value.ref 69), none, some (Value.str (Str.ofString "CaselessDict") 332), some (Value.str (Str.ofString "CaselessDict") 340), some (Value.builtin "dict.__new__"), some (Value.bool true)] }
noncomputable def hd.o_146 : Params → Obj := fun P => { cls := Value.type "code", data := Data.fields #[Value.str (Str.ofString "__setitem__") 363, Value.str (Str.ofString "CaselessDict.__setitem__") 364, Value.str (Str.ofString "/claim/cut.py") 365, Value.int 50 0, Value.int 3 0, Value.int 0 0, Value.int 0 0, Value.int 3 0, Value.ref 94, Value.bool true, Value.int 276 0, Value.ref 95, Value.none, Value.ref 96, Value.ref 97, Value.ref 98, Value.int 370 0, Value.int 50 0, Value.str (Str.ofString "/claim/cut.py") 371] }
noncomputable def hd.o_210 : Params → Obj := fun P => { cls := Value.type "code", data := Data.fields #[Value.str (Str.ofString "update") 436, Value.str (Str.ofString "CaselessDict.update") 437, Value.str (Str.ofString "/claim/cut.py") 438, Value.int 80 0, Value.int 1 0, Value.int 0 0, Value.int 0 0, Value.int 15 0, Value.ref 158, Value.bool true, Value.int 276 0, Value.ref 159, Value.none, Value.ref 160, Value.ref 161, Value.ref 162, Value.int 446 0, Value.int 80 0, Value.str (Str.ofString "/claim/cut.py") 447] }
noncomputable def hd.o_130 : Params → Obj := fun P => { cls := Value.type "code", data := Data.fields #[Value.str (Str.ofString "__init__") 344, Value.str (Str.ofString "CaselessDict.__init__") 345, Value.str (Str.ofString "/claim/cut.py") 346, Value.int 42 0, Value.int 1 0, Value.int 0 0, Value.int 0 0, Value.int 15 0, Value.ref 78, Value.bool true, Value.int 276 0, Value.ref 79, Value.none, Value.ref 80, Value.ref 81, Value.ref 82, Value.int 351 0, Value.int 42 0, Value.str (Str.ofString "/claim/cut.py") 352] }
noncomputable def hd.o_194 : Params → Obj := fun P => { cls := Value.type "tuple", data := Data.seq #[] }
noncomputable def hd.o_162 : Params → Obj := fun P => { cls := Value.type "code", data := Data.fields #[Value.str (Str.ofString "__contains__") 382, Value.str (Str.ofString "CaselessDict.__contains__") 383, Value.str (Str.ofString "/claim/cut.py") 384, Value.int 58 0, Value.int 2 0, Value.int 0 0, Value.int 0 0, Value.int 3 0, Value.ref 110, Value.bool true, Value.int 276 0, Value.ref 111, Value.none, Value.ref 112, Value.ref 113, Value.ref 114, Value.int 388 0, Value.int 58 0, Value.str (Str.ofString "/claim/cut.py") 389] }
noncomputable def hd.o_226 : Params → Obj := fun P => { cls := Value.type "tuple", data := Data.seq #[] }
noncomputable def hd.o_122 : Params → Obj := fun P => { cls := Value.type "code", data := Data.fields #[Value.str (Str.ofString "CaselessDict") 334, Value.str (Str.ofString "CaselessDict") 335, Value.str (Str.ofString "/claim/cut.py") 336, Value.int 40 0, Value.int 0 0, Value.int 0 0, Value.int 0 0, Value.int 0 0, Value.ref 73, Value.bool false, Value.int 276 0, Value.ref 74, Value.none, Value.none, Value.none, Value.none, Value.int 337 0, Value.int 40 0, Value.str (Str.ofString "/claim/cut.py") 338] }
noncomputable def hd.o_186 : Params → Obj := fun P => { cls := Value.type "tuple", data := Data.seq #[Value.str (Str.ofString "self") 415, Value.str (Str.ofString "key") 416, Value.str (Str.ofString "default") 417] }
noncomputable def hd.o_154 : Params → Obj := fun P => { cls := Value.type "code", data := Data.fields #[Value.str (Str.ofString "__delitem__") 373, Value.str (Str.ofString "CaselessDict.__delitem__") 374, Value.str (Str.ofString "/claim/cut.py") 375, Value.int 54 0, Value.int 2 0, Value.int 0 0, Value.int 0 0, Value.int 3 0, Value.ref 102, Value.bool true, Value.int 276 0, Value.ref 103, Value.none, Value.ref 104, Value.ref 105, Value.ref 106, Value.int 379 0, Value.int 54 0, Value.str (Str.ofString "/claim/cut.py") 380] }
noncomputable def hd.o_218 : Params → Obj := fun P => { cls := Value.type "function", data := Data.func { name := Str.ofString "__eq__", qualname := Str.ofString "CaselessDict.__eq__", params := (fa [12, 11]), body := FuncBody.stmts (fb [12, 11]), scope := (fs [12, 11]), globals := 3, closure := [], defaults := Value.none, kwdefaults := Value.none, pyModule := Value.str (Str.ofString "icalendar.caselessdict") 330, code := Value.ref 170 } }
noncomputable def hd.o_138 : Params → Obj := fun P => { cls := Value.type "code", data := Data.fields #[Value.str (Str.ofString "__getitem__") 354, Value.str (Str.ofString "CaselessDict.__getitem__") 355, Value.str (Str.ofString "/claim/cut.py") 356, Value.int 46 0, Value.int 2 0, Value.int 0 0, Value.int 0 0, Value.int 3 0, Value.ref 86, Value.bool true, Value.int 276 0, Value.ref 87, Value.none, Value.ref 88, Value.ref 89, Value.ref 90, Value.int 360 0, Value.int 46 0, Value.str (Str.ofString "/claim/cut.py") 361] }
noncomputable def hd.o_202 : Params → Obj := fun P => { cls := Value.none, data := Data.func { name := Str.ofString "has_key", qualname := Str.ofString "CaselessDict.has_key", params := (fa [12, 9]), body := FuncBody.stmts (fb [12, 9]), scope := (fs [12, 9]), globals := 0, closure := [], defaults := Value.none, kwdefaults := Value.none } }
noncomputable def hd.o_170 : Params → Obj := fun P => { cls := Value.none, data := Data.func { name := Str.ofString "get", qualname := Str.ofString "CaselessDict.get", params := (fa [12, 5]), body := FuncBody.stmts (fb [12, 5]), scope := (fs [12, 5]), globals := 0, closure := [], defaults := Value.none, kwdefaults := Value.none } }
noncomputable def hd.o_234 : Params → Obj := fun P => { cls := Value.none, data := Data.fields #[] }
noncomputable def hd.o_176 : Params → Obj := fun P => { cls := Value.none, data := Data.fields #[] }
noncomputable def hd.o_240 : Params → Obj := fun P => { cls := Value.type "tuple", data := Data.seq #[] }
noncomputable def hd.o_144 : Params → Obj := fun P => { cls := Value.type "tuple", data := Data.seq #[] }
noncomputable def hd.o_208 : Params → Obj := fun P => { cls := Value.type "tuple", data := Data.seq #[] }
noncomputable def hd.o_128 : Params → Obj := fun P => { cls := Value.type "tuple", data := Data.seq #[] }
noncomputable def hd.o_192 : Params → Obj := fun P => { cls := Value.none, data := Data.fields #[] }
noncomputable def hd.o_160 : Params → Obj := fun P => { cls := Value.type "tuple", data := Data.seq #[] }
noncomputable def hd.o_224 : Params → Obj := fun P => { cls := Value.type "code", data := Data.fields #[Value.str (Str.ofString "__ne__") 457, Value.str (Str.ofString "CaselessDict.__ne__") 458, Value.str (Str.ofString "/claim/cut.py") 459, Value.int 93 0, Value.int 2 0, Value.int 0 0, Value.int 0 0, Value.int 3 0, Value.ref 172, Value.bool true, Value.int 276 0, Value.ref 173, Value.none, Value.ref 174, Value.ref 175, Value.ref 176, Value.int 462 0, Value.int 93 0, Value.str (Str.ofString "/claim/cut.py") 463] }
noncomputable def hd.o_120 : Params → Obj := fun P => { cls := Value.type "tuple", data := Data.seq #[] }
noncomputable def hd.o_184 : Params → Obj := fun P => { cls := Value.type "tuple", data := Data.seq #[Value.str (Str.ofString "__class__") 414] }
noncomputable def hd.o_152 : Params → Obj := fun P => { cls := Value.type "tuple", data := Data.seq #[] }
noncomputable def hd.o_216 : Params → Obj := fun P => { cls := Value.none, data := Data.func { name := Str.ofString "__eq__", qualname := Str.ofString "CaselessDict.__eq__", params := (fa [12, 11]), body := FuncBody.stmts (fb [12, 11]), scope := (fs [12, 11]), globals := 0, closure := [], defaults := Value.none, kwdefaults := Value.none } }
noncomputable def hd.o_136 : Params → Obj := fun P => { cls := Value.type "tuple", data := Data.seq #[] }
noncomputable def hd.o_200 : Params → Obj := fun P => { cls := Value.type "tuple", data := Data.seq #[Value.str (Str.ofString "self") 431, Value.str (Str.ofString "key") 432] }
noncomputable def hd.o_168 : Params → Obj := fun P => { cls := Value.type "tuple", data := Data.seq #[Value.str (Str.ofString "self") 395, Value.str (Str.ofString "key") 396, Value.str (Str.ofString "default") 397] }
noncomputable def hd.o_232 : Params → Obj := fun P => { cls := Value.type "function", data := Data.func { name := Str.ofString "sorted_keys", qualname := Str.ofString "CaselessDict.sorted_keys", params := (fa [12, 14]), body := FuncBody.stmts (fb [12, 14]), scope := (fs [12, 8]), globals := 3, closure := [], defaults := Value.none, kwdefaults := Value.none, pyModule := Value.str (Str.ofString "icalendar.caselessdict") 330, code := Value.ref 184 } }
noncomputable def hd.o_116 : Params → Obj := fun P => { cls := Value.type "tuple", data := Data.seq #[Value.type "dict"] }
noncomputable def hd.o_180 : Params → Obj := fun P => { cls := Value.type "code", data := Data.fields #[Value.str (Str.ofString "setdefault") 401, Value.str (Str.ofString "CaselessDict.setdefault") 402, Value.str (Str.ofString "/claim/cut.py") 403, Value.int 66 0, Value.int 3 0, Value.int 0 0, Value.int 0 0, Value.int 3 0, Value.ref 128, Value.bool true, Value.int 276 0, Value.ref 129, Value.none, Value.ref 130, Value.ref 131, Value.ref 132, Value.int 408 0, Value.int 66 0, Value.str (Str.ofString "/claim/cut.py") 409] }
noncomputable def hd.o_244 : Params → Obj := fun P => { cls := Value.type "getset_descriptor", data := Data.fields #[Value.str (Str.ofString "__weakref__") 484, Value.ref 195, Value.builtin "ExceptionGroup.__weakref__", Value.none] }
noncomputable def hd.o_148 : Params → Obj := fun P => { cls := Value.type "tuple", data := Data.seq #[Value.ref 72] }
noncomputable def hd.o_212 : Params → Obj := fun P => { cls := Value.type "tuple", data := Data.seq #[] }
noncomputable def hd.o_132 : Params → Obj := fun P => { cls := Value.type "tuple", data := Data.seq #[Value.ref 72] }
noncomputable def hd.o_196 : Params → Obj := fun P => { cls := Value.type "code", data := Data.fields #[Value.str (Str.ofString "popitem") 421, Value.str (Str.ofString "CaselessDict.popitem") 422, Value.str (Str.ofString "/claim/cut.py") 423, Value.int 74 0, Value.int 1 0, Value.int 0 0, Value.int 0 0, Value.int 3 0, Value.ref 144, Value.bool true, Value.int 276 0, Value.ref 145, Value.none, Value.ref 146, Value.ref 147, Value.ref 148, Value.int 425 0, Value.int 74 0, Value.str (Str.ofString "/claim/cut.py") 426] }
noncomputable def hd.o_164 : Params → Obj := fun P => { cls := Value.type "tuple", data := Data.seq #[Value.none] }
noncomputable def hd.o_228 : Params → Obj := fun P => { cls := Value.type "tuple", data := Data.seq #[Value.str (Str.ofString "self") 469] }
noncomputable def hd.o_115 : Params → Obj := fun P => { cls := Value.none, data := Data.fields #[Value.int 2 0, Value.int 0 0, Value.ref 37, Value.int 8 0, Value.int 0 0, Value.ref 46, Value.int 16 0, Value.int 0 0, Value.ref 53, Value.int 20 0, Value.int 0 0, Value.ref 60, Value.int 28 0, Value.int 0 0, Value.ref 67, Value.int 40 0, Value.int 0 0, Value.ref 75] }
noncomputable def hd.o_124 : Params → Obj := fun P => { cls := Value.type "tuple", data := Data.seq #[Value.ref 72] }
noncomputable def hd.o_188 : Params → Obj := fun P => { cls := Value.none, data := Data.func { name := Str.ofString "pop", qualname := Str.ofString "CaselessDict.pop", params := (fa [12, 7]), body := FuncBody.stmts (fb [12, 7]), scope := (fs [12, 5]), globals := 0, closure := [], defaults := Value.none, kwdefaults := Value.none } }
noncomputable def hd.o_156 : Params → Obj := fun P => { cls := Value.type "tuple", data := Data.seq #[Value.ref 72] }
noncomputable def hd.o_220 : Params → Obj := fun P => { cls := Value.none, data := Data.fields #[] }
noncomputable def hd.o_140 : Params → Obj := fun P => { cls := Value.type "tuple", data := Data.seq #[Value.ref 72] }
noncomputable def hd.o_204 : Params → Obj := fun P => { cls := Value.type "function", data := Data.func { name := Str.ofString "has_key", qualname := Str.ofString "CaselessDict.has_key", params := (fa [12, 9]), body := FuncBody.stmts (fb [12, 9]), scope := (fs [12, 9]), globals := 3, closure := [], defaults := Value.none, kwdefaults := Value.none, pyModule := Value.str (Str.ofString "icalendar.caselessdict") 330, code := Value.ref 156 } }
noncomputable def hd.o_172 : Params → Obj := fun P => { cls := Value.type "function", data := Data.func { name := Str.ofString "get", qualname := Str.ofString "CaselessDict.get", params := (fa [12, 5]), body := FuncBody.stmts (fb [12, 5]), scope := (fs [12, 5]), globals := 3, closure := [(Str.ofString "__class__", 72)], defaults := Value.ref 117, kwdefaults := Value.none, pyModule := Value.str (Str.ofString "icalendar.caselessdict") 330, code := Value.ref 124, closureTuple := Value.ref 118 } }
noncomputable def hd.o_236 : Params → Obj := fun P => { cls := Value.type "tuple", data := Data.seq #[] }
noncomputable def hd.o_175 : Params → Obj := fun P => { cls := Value.type "tuple", data := Data.seq #[Value.str (Str.ofString "__class__") 404] }
noncomputable def hd.o_239 : Params → Obj := fun P => { cls := Value.type "function", data := Data.func { name := Str.ofString "sorted_items", qualname := Str.ofString "CaselessDict.sorted_items", params := (fa [12, 15]), body := FuncBody.stmts (fb [12, 15]), scope := (fs [12, 8]), globals := 3, closure := [], defaults := Value.none, kwdefaults := Value.none, pyModule := Value.str (Str.ofString "icalendar.caselessdict") 330, code := Value.ref 191 } }
noncomputable def hd.o_143 : Params → Obj := fun P => { cls := Value.type "tuple", data := Data.seq #[Value.str (Str.ofString "self") 367, Value.str (Str.ofString "key") 368, Value.str (Str.ofString "value") 369] }
noncomputable def hd.o_207 : Params → Obj := fun P => { cls := Value.type "tuple", data := Data.seq #[Value.str (Str.ofString "self") 439, Value.str (Str.ofString "args") 440, Value.str (Str.ofString "kwargs") 441, Value.str (Str.ofString "mappings") 442, Value.str (Str.ofString "mapping") 443, Value.str (Str.ofString "key") 444, Value.str (Str.ofString "value") 445] }
noncomputable def hd.o_127 : Params → Obj := fun P => { cls := Value.type "tuple", data := Data.seq #[Value.str (Str.ofString "self") 348, Value.str (Str.ofString "args") 349, Value.str (Str.ofString "kwargs") 350] }
noncomputable def hd.o_191 : Params → Obj := fun P => { cls := Value.type "tuple", data := Data.seq #[] }
noncomputable def hd.o_159 : Params → Obj := fun P => { cls := Value.type "tuple", data := Data.seq #[Value.str (Str.ofString "self") 386, Value.str (Str.ofString "key") 387] }
noncomputable def hd.o_223 : Params → Obj := fun P => { cls := Value.none, data := Data.func { name := Str.ofString "__ne__", qualname := Str.ofString "CaselessDict.__ne__", params := (fa [12, 12]), body := FuncBody.stmts (fb [12, 12]), scope := (fs [12, 12]), globals := 0, closure := [], defaults := Value.none, kwdefaults := Value.none } }
noncomputable def hd.o_119 : Params → Obj := fun P => { cls := Value.type "cell", data := Data.cell (some (Value.ref 195)) }
noncomputable def hd.o_183 : Params → Obj := fun P => { cls := Value.type "tuple", data := Data.seq #[Value.ref 72] }
noncomputable def hd.o_151 : Params → Obj := fun P => { cls := Value.type "tuple", data := Data.seq #[Value.str (Str.ofString "self") 377, Value.str (Str.ofString "key") 378] }
noncomputable def hd.o_215 : Params → Obj := fun P => { cls := Value.type "tuple", data := Data.seq #[] }
noncomputable def hd.o_135 : Params → Obj := fun P => { cls := Value.type "tuple", data := Data.seq #[Value.str (Str.ofString "self") 358, Value.str (Str.ofString "key") 359] }
noncomputable def hd.o_199 : Params → Obj := fun P => { cls := Value.none, data := Data.fields #[] }
noncomputable def hd.o_167 : Params → Obj := fun P => { cls := Value.none, data := Data.fields #[] }
noncomputable def hd.o_231 : Params → Obj := fun P => { cls := Value.type "code", data := Data.fields #[Value.str (Str.ofString "sorted_keys") 466, Value.str (Str.ofString "CaselessDict.sorted_keys") 467, Value.str (Str.ofString "/claim/cut.py") 468, Value.int 97 0, Value.int 1 0, Value.int 0 0, Value.int 0 0, Value.int 3 0, Value.ref 179, Value.bool true, Value.int 276 0, Value.ref 180, Value.none, Value.ref 181, Value.ref 182, Value.ref 183, Value.int 470 0, Value.int 97 0, Value.str (Str.ofString "/claim/cut.py") 471] }
noncomputable def hd.o_179 : Params → Obj := fun P => { cls := Value.none, data := Data.func { name := Str.ofString "setdefault", qualname := Str.ofString "CaselessDict.setdefault", params := (fa [12, 6]), body := FuncBody.stmts (fb [12, 6]), scope := (fs [12, 2]), globals := 0, closure := [], defaults := Value.none, kwdefaults := Value.none } }
noncomputable def hd.o_243 : Params → Obj := fun P => { cls := Value.type "getset_descriptor", data := Data.fields #[Value.str (Str.ofString "__dict__") 482, Value.ref 195, Value.builtin "function.__dict__", Value.builtin "function.__dict__#set"] }
noncomputable def hd.o_147 : Params → Obj := fun P => { cls := Value.type "function", data := Data.func { name := Str.ofString "__setitem__", qualname := Str.ofString "CaselessDict.__setitem__", params := (fa [12, 2]), body := FuncBody.stmts (fb [12, 2]), scope := (fs [12, 2]), globals := 3, closure := [(Str.ofString "__class__", 72)], defaults := Value.none, kwdefaults := Value.none, pyModule := Value.str (Str.ofString "icalendar.caselessdict") 330, code := Value.ref 99, closureTuple := Value.ref 93 } }
noncomputable def hd.o_211 : Params → Obj := fun P => { cls := Value.type "function", data := Data.func { name := Str.ofString "update", qualname := Str.ofString "CaselessDict.update", params := (fa [12, 10]), body := FuncBody.stmts (fb [12, 10]), scope := (fs [12, 10]), globals := 3, closure := [], defaults := Value.none, kwdefaults := Value.none, pyModule := Value.str (Str.ofString "icalendar.caselessdict") 330, code := Value.ref 163 } }
noncomputable def hd.o_131 : Params → Obj := fun P => { cls := Value.type "function", data := Data.func { name := Str.ofString "__init__", qualname := Str.ofString "CaselessDict.__init__", params := (fa [12, 0]), body := FuncBody.stmts (fb [12, 0]), scope := (fs [12, 0]), globals := 3, closure := [(Str.ofString "__class__", 72)], defaults := Value.none, kwdefaults := Value.none, pyModule := Value.str (Str.ofString "icalendar.caselessdict") 330, code := Value.ref 83, closureTuple := Value.ref 77 } }
noncomputable def hd.o_195 : Params → Obj := fun P => { cls := Value.none, data := Data.func { name := Str.ofString "popitem", qualname := Str.ofString "CaselessDict.popitem", params := (fa [12, 8]), body := FuncBody.stmts (fb [12, 8]), scope := (fs [12, 8]), globals := 0, closure := [], defaults := Value.none, kwdefaults := Value.none } }
noncomputable def hd.o_163 : Params → Obj := fun P => { cls := Value.type "function", data := Data.func { name := Str.ofString "__contains__", qualname := Str.ofString "CaselessDict.__contains__", params := (fa [12, 4]), body := FuncBody.stmts (fb [12, 4]), scope := (fs [12, 1]), globals := 3, closure := [(Str.ofString "__class__", 72)], defaults := Value.none, kwdefaults := Value.none, pyModule := Value.str (Str.ofString "icalendar.caselessdict") 330, code := Value.ref 115, closureTuple := Value.ref 109 } }
noncomputable def hd.o_227 : Params → Obj := fun P => { cls := Value.none, data := Data.fields #[] }
noncomputable def hd.o_123 : Params → Obj := fun P => { cls := Value.type "frame", slots := #[some (Value.ref 75), some (Value.ref 3), some (Value.ref 71), none, some (Value.str (Str.ofString "icalendar.caselessdict") 330), none, some (Value.ref 0)] }
noncomputable def hd.o_187 : Params → Obj := fun P => { cls := Value.type "tuple", data := Data.seq #[] }
noncomputable def hd.o_155 : Params → Obj := fun P => { cls := Value.type "function", data := Data.func { name := Str.ofString "__delitem__", qualname := Str.ofString "CaselessDict.__delitem__", params := (fa [12, 3]), body := FuncBody.stmts (fb [12, 3]), scope := (fs [12, 1]), globals := 3, closure := [(Str.ofString "__class__", 72)], defaults := Value.none, kwdefaults := Value.none, pyModule := Value.str (Str.ofString "icalendar.caselessdict") 330, code := Value.ref 107, closureTuple := Value.ref 101 } }
noncomputable def hd.o_219 : Params → Obj := fun P => { cls := Value.type "tuple", data := Data.seq #[] }
noncomputable def hd.o_139 : Params → Obj := fun P => { cls := Value.type "function", data := Data.func { name := Str.ofString "__getitem__", qualname := Str.ofString "CaselessDict.__getitem__", params := (fa [12, 1]), body := FuncBody.stmts (fb [12, 1]), scope := (fs [12, 1]), globals := 3, closure := [(Str.ofString "__class__", 72)], defaults := Value.none, kwdefaults := Value.none, pyModule := Value.str (Str.ofString "icalendar.caselessdict") 330, code := Value.ref 91, closureTuple := Value.ref 85 } }
noncomputable def hd.o_203 : Params → Obj := fun P => { cls := Value.type "code", data := Data.fields #[Value.str (Str.ofString "has_key") 428, Value.str (Str.ofString "CaselessDict.has_key") 429, Value.str (Str.ofString "/claim/cut.py") 430, Value.int 77 0, Value.int 2 0, Value.int 0 0, Value.int 0 0, Value.int 3 0, Value.ref 151, Value.bool true, Value.int 276 0, Value.ref 152, Value.none, Value.ref 153, Value.ref 154, Value.ref 155, Value.int 433 0, Value.int 77 0, Value.str (Str.ofString "/claim/cut.py") 434] }
noncomputable def hd.o_171 : Params → Obj := fun P => { cls := Value.type "code", data := Data.fields #[Value.str (Str.ofString "get") 391, Value.str (Str.ofString "CaselessDict.get") 392, Value.str (Str.ofString "/claim/cut.py") 393, Value.int 62 0, Value.int 3 0, Value.int 0 0, Value.int 0 0, Value.int 3 0, Value.ref 119, Value.bool true, Value.int 276 0, Value.ref 120, Value.none, Value.ref 121, Value.ref 122, Value.ref 123, Value.int 398 0, Value.int 62 0, Value.str (Str.ofString "/claim/cut.py") 399] }
noncomputable def hd.o_235 : Params → Obj := fun P => { cls := Value.type "tuple", data := Data.seq #[Value.str (Str.ofString "self") 476] }
noncomputable def hd.o_177 : Params → Obj := fun P => { cls := Value.type "tuple", data := Data.seq #[Value.str (Str.ofString "self") 405, Value.str (Str.ofString "key") 406, Value.str (Str.ofString "value") 407] }
noncomputable def hd.o_241 : Params → Obj := fun P => { cls := Value.type "dict", data := Data.dict #[{ hash := PyData.keyHash P (Str.ofString "__module__"), key := Value.str (Str.ofString "__module__") 339, val := Value.str (Str.ofString "icalendar.caselessdict") 330 }, { hash := PyData.keyHash P (Str.ofString "__firstlineno__"), key := Value.str (Str.ofString "__firstlineno__") 343, val := Value.int 40 342 }, { hash := PyData.keyHash P (Str.ofString "__init__"), key := Value.str (Str.ofString "__init__") 353, val := Value.ref 84 }, { hash := PyData.keyHash P (Str.ofString "__getitem__"), key := Value.str (Str.ofString "__getitem__") 362, val := Value.ref 92 }, { hash := PyData.keyHash P (Str.ofString "__setitem__"), key := Value.str (Str.ofString "__setitem__") 372, val := Value.ref 100 }, { hash := PyData.keyHash P (Str.ofString "__delitem__"), key := Value.str (Str.ofString "__delitem__") 381, val := Value.ref 108 }, { hash := PyData.keyHash P (Str.ofString "__contains__"), key := Value.str (Str.ofString "__contains__") 390, val := Value.ref 116 }, { hash := PyData.keyHash P (Str.ofString "get"), key := Value.str (Str.ofString "get") 400, val := Value.ref 125 }, { hash := PyData.keyHash P (Str.ofString "setdefault"), key := Value.str (Str.ofString "setdefault") 410, val := Value.ref 134 }, { hash := PyData.keyHash P (Str.ofString "pop"), key := Value.str (Str.ofString "pop") 420, val := Value.ref 143 }, { hash := PyData.keyHash P (Str.ofString "popitem"), key := Value.str (Str.ofString "popitem") 427, val := Value.ref 150 }, { hash := PyData.keyHash P (Str.ofString "has_key"), key := Value.str (Str.ofString "has_key") 435, val := Value.ref 157 }, { hash := PyData.keyHash P (Str.ofString "update"), key := Value.str (Str.ofString "update") 448, val := Value.ref 164 }, { hash := PyData.keyHash P (Str.ofString "__eq__"), key := Value.str (Str.ofString "__eq__") 456, val := Value.ref 171 }, { hash := PyData.keyHash P (Str.ofString "__ne__"), key := Value.str (Str.ofString "__ne__") 464, val := Value.ref 178 }, { hash := PyData.keyHash P (Str.ofString "canonical_order"), key := Value.str (Str.ofString "canonical_order") 465, val := Value.none }, { hash := PyData.keyHash P (Str.ofString "sorted_keys"), key := Value.str (Str.ofString "sorted_keys") 472, val := Value.ref 185 }, { hash := PyData.keyHash P (Str.ofString "sorted_items"), key := Value.str (Str.ofString "sorted_items") 479, val := Value.ref 192 }, { hash := PyData.keyHash P (Str.ofString "__static_attributes__"), key := Value.str (Str.ofString "__static_attributes__") 480, val := Value.ref 193 }, { hash := PyData.keyHash P (Str.ofString "__dict__"), key := Value.str (Str.ofString "__dict__") 483, val := Value.ref 196 }, { hash := PyData.keyHash P (Str.ofString "__weakref__"), key := Value.str (Str.ofString "__weakref__") 485, val := Value.ref 197 }, { hash := PyData.keyHash P (Str.ofString "__doc__"), key := Value.str (Str.ofString "__doc__") 486, val := Value.none }, { hash := PyData.keyHash P (Str.ofString "__hash__"), key := Value.str (Str.ofString "__hash__") 487, val := Value.none }] 6 }
noncomputable def hd.o_145 : Params → Obj := fun P => { cls := Value.none, data := Data.func { name := Str.ofString "__setitem__", qualname := Str.ofString "CaselessDict.__setitem__", params := (fa [12, 2]), body := FuncBody.stmts (fb [12, 2]), scope := (fs [12, 2]), globals := 0, closure := [], defaults := Value.none, kwdefaults := Value.none } }
noncomputable def hd.o_209 : Params → Obj := fun P => { cls := Value.none, data := Data.func { name := Str.ofString "update", qualname := Str.ofString "CaselessDict.update", params := (fa [12, 10]), body := FuncBody.stmts (fb [12, 10]), scope := (fs [12, 10]), globals := 0, closure := [], defaults := Value.none, kwdefaults := Value.none } }
noncomputable def hd.o_129 : Params → Obj := fun P => { cls := Value.none, data := Data.func { name := Str.ofString "__init__", qualname := Str.ofString "CaselessDict.__init__", params := (fa [12, 0]), body := FuncBody.stmts (fb [12, 0]), scope := (fs [12, 0]), globals := 0, closure := [], defaults := Value.none, kwdefaults := Value.none } }
noncomputable def hd.o_193 : Params → Obj := fun P => { cls := Value.type "tuple", data := Data.seq #[Value.str (Str.ofString "self") 424] }
noncomputable def hd.o_161 : Params → Obj := fun P => { cls := Value.none, data := Data.func { name := Str.ofString "__contains__", qualname := Str.ofString "CaselessDict.__contains__", params := (fa [12, 4]), body := FuncBody.stmts (fb [12, 4]), scope := (fs [12, 1]), globals := 0, closure := [], defaults := Value.none, kwdefaults := Value.none } }
noncomputable def hd.o_225 : Params → Obj := fun P => { cls := Value.type "function", data := Data.func { name := Str.ofString "__ne__", qualname := Str.ofString "CaselessDict.__ne__", params := (fa [12, 12]), body := FuncBody.stmts (fb [12, 12]), scope := (fs [12, 12]), globals := 3, closure := [], defaults := Value.none, kwdefaults := Value.none, pyModule := Value.str (Str.ofString "icalendar.caselessdict") 330, code := Value.ref 177 } }
noncomputable def hd.o_121 : Params → Obj := fun P => { cls := Value.none, data := Data.fields #[Value.int 42 0, Value.int 4 0, Value.ref 83, Value.int 46 0, Value.int 4 0, Value.ref 91, Value.int 50 0, Value.int 4 0, Value.ref 99, Value.int 54 0, Value.int 4 0, Value.ref 107, Value.int 58 0, Value.int 4 0, Value.ref 115, Value.int 62 0, Value.int 4 0, Value.ref 124, Value.int 66 0, Value.int 4 0, Value.ref 133, Value.int 70 0, Value.int 4 0, Value.ref 142, Value.int 74 0, Value.int 4 0, Value.ref 149, Value.int 77 0, Value.int 4 0, Value.ref 156, Value.int 80 0, Value.int 4 0, Value.ref 163, Value.int 88 0, Value.int 4 0, Value.ref 170, Value.int 93 0, Value.int 4 0, Value.ref 177, Value.int 97 0, Value.int 4 0, Value.ref 184, Value.int 100 0, Value.int 4 0, Value.ref 191] }
noncomputable def hd.o_185 : Params → Obj := fun P => { cls := Value.none, data := Data.fields #[] }
noncomputable def hd.o_153 : Params → Obj := fun P => { cls := Value.none, data := Data.func { name := Str.ofString "__delitem__", qualname := Str.ofString "CaselessDict.__delitem__", params := (fa [12, 3]), body := FuncBody.stmts (fb [12, 3]), scope := (fs [12, 1]), globals := 0, closure := [], defaults := Value.none, kwdefaults := Value.none } }
noncomputable def hd.o_217 : Params → Obj := fun P => { cls := Value.type "code", data := Data.fields #[Value.str (Str.ofString "__eq__") 449, Value.str (Str.ofString "CaselessDict.__eq__") 450, Value.str (Str.ofString "/claim/cut.py") 451, Value.int 88 0, Value.int 2 0, Value.int 0 0, Value.int 0 0, Value.int 3 0, Value.ref 165, Value.bool true, Value.int 276 0, Value.ref 166, Value.none, Value.ref 167, Value.ref 168, Value.ref 169, Value.int 454 0, Value.int 88 0, Value.str (Str.ofString "/claim/cut.py") 455] }
noncomputable def hd.o_137 : Params → Obj := fun P => { cls := Value.none, data := Data.func { name := Str.ofString "__getitem__", qualname := Str.ofString "CaselessDict.__getitem__", params := (fa [12, 1]), body := FuncBody.stmts (fb [12, 1]), scope := (fs [12, 1]), globals := 0, closure := [], defaults := Value.none, kwdefaults := Value.none } }
noncomputable def hd.o_201 : Params → Obj := fun P => { cls := Value.type "tuple", data := Data.seq #[] }
noncomputable def hd.o_169 : Params → Obj := fun P => { cls := Value.type "tuple", data := Data.seq #[] }
noncomputable def hd.o_233 : Params → Obj := fun P => { cls := Value.type "tuple", data := Data.seq #[] }
noncomputable def hd.o_117 : Params → Obj := fun P => { cls := Value.type "builtin_function_or_method", data := Data.fields #[Value.builtin "type.__prepare__", Value.type "type"] }
noncomputable def hd.o_181 : Params → Obj := fun P => { cls := Value.type "function", data := Data.func { name := Str.ofString "setdefault", qualname := Str.ofString "CaselessDict.setdefault", params := (fa [12, 6]), body := FuncBody.stmts (fb [12, 6]), scope := (fs [12, 2]), globals := 3, closure := [(Str.ofString "__class__", 72)], defaults := Value.ref 126, kwdefaults := Value.none, pyModule := Value.str (Str.ofString "icalendar.caselessdict") 330, code := Value.ref 133, closureTuple := Value.ref 127 } }
noncomputable def hd.o_245 : Params → Obj := fun P => { cls := Value.type "super", data := Data.fields #[Value.ref 195, Value.ref 195, Value.ref 195] }
noncomputable def hd.o_149 : Params → Obj := fun P => { cls := Value.type "tuple", data := Data.seq #[Value.str (Str.ofString "__class__") 376] }
noncomputable def hd.o_213 : Params → Obj := fun P => { cls := Value.none, data := Data.fields #[] }
noncomputable def hd.o_133 : Params → Obj := fun P => { cls := Value.type "tuple", data := Data.seq #[Value.str (Str.ofString "__class__") 357] }
noncomputable def hd.o_197 : Params → Obj := fun P => { cls := Value.type "function", data := Data.func { name := Str.ofString "popitem", qualname := Str.ofString "CaselessDict.popitem", params := (fa [12, 8]), body := FuncBody.stmts (fb [12, 8]), scope := (fs [12, 8]), globals := 3, closure := [], defaults := Value.none, kwdefaults := Value.none, pyModule := Value.str (Str.ofString "icalendar.caselessdict") 330, code := Value.ref 149 } }
noncomputable def hd.o_165 : Params → Obj := fun P => { cls := Value.type "tuple", data := Data.seq #[Value.ref 72] }
noncomputable def hd.o_229 : Params → Obj := fun P => { cls := Value.type "tuple", data := Data.seq #[] }
noncomputable def hd.o_125 : Params → Obj := fun P => { cls := Value.type "tuple", data := Data.seq #[Value.str (Str.ofString "__class__") 347] }
noncomputable def hd.o_189 : Params → Obj := fun P => { cls := Value.type "code", data := Data.fields #[Value.str (Str.ofString "pop") 411, Value.str (Str.ofString "CaselessDict.pop") 412, Value.str (Str.ofString "/claim/cut.py") 413, Value.int 70 0, Value.int 3 0, Value.int 0 0, Value.int 0 0, Value.int 3 0, Value.ref 137, Value.bool true, Value.int 276 0, Value.ref 138, Value.none, Value.ref 139, Value.ref 140, Value.ref 141, Value.int 418 0, Value.int 70 0, Value.str (Str.ofString "/claim/cut.py") 419] }
noncomputable def hd.o_157 : Params → Obj := fun P => { cls := Value.type "tuple", data := Data.seq #[Value.str (Str.ofString "__class__") 385] }
noncomputable def hd.o_221 : Params → Obj := fun P => { cls := Value.type "tuple", data := Data.seq #[Value.str (Str.ofString "self") 460, Value.str (Str.ofString "other") 461] }
noncomputable def hd.o_141 : Params → Obj := fun P => { cls := Value.type "tuple", data := Data.seq #[Value.str (Str.ofString "__class__") 366] }
noncomputable def hd.o_205 : Params → Obj := fun P => { cls := Value.type "tuple", data := Data.seq #[] }
noncomputable def hd.o_173 : Params → Obj := fun P => { cls := Value.type "tuple", data := Data.seq #[Value.none] }
noncomputable def hd.o_237 : Params → Obj := fun P => { cls := Value.none, data := Data.func { name := Str.ofString "sorted_items", qualname := Str.ofString "CaselessDict.sorted_items", params := (fa [12, 15]), body := FuncBody.stmts (fb [12, 15]), scope := (fs [12, 8]), globals := 0, closure := [], defaults := Value.none, kwdefaults := Value.none } }
noncomputable def hd.o_340 : Params → Obj := fun P => { cls := Value.type "dict", data := Data.dict #[{ hash := PyData.keyHash P (Str.ofString "__name__"), key := Value.str (Str.ofString "__name__") 165, val := Value.str (Str.ofString "icalendar.parser.parameter") 490 }, { hash := PyData.keyHash P (Str.ofString "__doc__"), key := Value.str (Str.ofString "__doc__") 166, val := Value.none }, { hash := PyData.keyHash P (Str.ofString "__package__"), key := Value.str (Str.ofString "__package__") 167, val := Value.none }, { hash := PyData.keyHash P (Str.ofString "__loader__"), key := Value.str (Str.ofString "__loader__") 168, val := Value.builtin "__main__.__loader__#opaque" }, { hash := PyData.keyHash P (Str.ofString "__spec__"), key := Value.str (Str.ofString "__spec__") 169, val := Value.none }, { hash := PyData.keyHash P (Str.ofString "__annotations__"), key := Value.str (Str.ofString "__annotations__") 170, val := Value.ref 6 }, { hash := PyData.keyHash P (Str.ofString "__builtins__"), key := Value.str (Str.ofString "__builtins__") 171, val := Value.ref 4 }, { hash := PyData.keyHash P (Str.ofString "__file__"), key := Value.str (Str.ofString "__file__") 173, val := Value.str (Str.ofString "/claim/cut.py") 172 }, { hash := PyData.keyHash P (Str.ofString "__cached__"), key := Value.str (Str.ofString "__cached__") 174, val := Value.none }, { hash := PyData.keyHash P (Str.ofString "_sre"), key := Value.str (Str.ofString "_sre") 275, val := Value.ref 12 }, { hash := PyData.keyHash P (Str.ofString "_wall"), key := Value.str (Str.ofString "_wall") 288, val := Value.ref 38 }, { hash := PyData.keyHash P (Str.ofString "SEQUENCE_TYPES"), key := Value.str (Str.ofString "SEQUENCE_TYPES") 291, val := Value.ref 39 }, { hash := PyData.keyHash P (Str.ofString "DEFAULT_ENCODING"), key := Value.str (Str.ofString "DEFAULT_ENCODING") 293, val := Value.str (Str.ofString "utf-8") 292 }, { hash := PyData.keyHash P (Str.ofString "to_unicode"), key := Value.str (Str.ofString "to_unicode") 302, val := Value.ref 47 }, { hash := PyData.keyHash P (Str.ofString "_escape_char"), key := Value.str (Str.ofString "_escape_char") 311, val := Value.ref 54 }, { hash := PyData.keyHash P (Str.ofString "_unescape_char"), key := Value.str (Str.ofString "_unescape_char") 318, val := Value.ref 61 }, { hash := PyData.keyHash P (Str.ofString "unescape_backslash"), key := Value.str (Str.ofString "unescape_backslash") 329, val := Value.ref 68 }, { hash := PyData.keyHash P (Str.ofString "CaselessDict"), key := Value.str (Str.ofString "CaselessDict") 489, val := Value.ref 195 }, { hash := PyData.keyHash P (Str.ofString "param_value"), key := Value.str (Str.ofString "param_value") 497, val := Value.ref 205 }, { hash := PyData.keyHash P (Str.ofString "QUOTABLE"), key := Value.str (Str.ofString "QUOTABLE") 693, val := Value.ref 210 }, { hash := PyData.keyHash P (Str.ofString "dquote"), key := Value.str (Str.ofString "dquote") 701, val := Value.ref 218 }, { hash := PyData.keyHash P (Str.ofString "q_join"), key := Value.str (Str.ofString "q_join") 712, val := Value.ref 226 }] 22 }
noncomputable def hd.o_365 : Params → Obj := fun P => { cls := Value.type "tuple", data := Data.seq #[Value.str (Str.ofString "always_quote") 709] }
noncomputable def hd.o_349 : Params → Obj := fun P => { cls := Value.type "dict", data := Data.dict #[] }
noncomputable def hd.o_357 : Params → Obj := fun P => { cls := Value.type "tuple", data := Data.seq #[] }
noncomputable def hd.o_353 : Params → Obj := fun P => { cls := Value.type "tuple", data := Data.seq #[Value.bool false] }
noncomputable def hd.o_345 : Params → Obj := fun P => { cls := Value.none, data := Data.func { name := Str.ofString "param_value", qualname := Str.ofString "param_value", params := (fa [14]), body := FuncBody.stmts (fb [14]), scope := (fs [14]), globals := 0, closure := [], defaults := Value.none, kwdefaults := Value.none } }
noncomputable def hd.o_361 : Params → Obj := fun P => { cls := Value.type "tuple", data := Data.seq #[Value.str (Str.ofString ",") 702, Value.bool false] }
noncomputable def hd.o_367 : Params → Obj := fun P => { cls := Value.type "code", data := Data.fields #[Value.str (Str.ofString "q_join") 703, Value.str (Str.ofString "q_join") 704, Value.str (Str.ofString "/claim/cut.py") 705, Value.int 115 0, Value.int 3 0, Value.int 0 0, Value.int 0 0, Value.int 3 0, Value.ref 220, Value.bool true, Value.int 276 0, Value.ref 221, Value.none, Value.ref 222, Value.ref 223, Value.ref 224, Value.int 710 0, Value.int 115 0, Value.str (Str.ofString "/claim/cut.py") 711] }
noncomputable def hd.o_351 : Params → Obj := fun P => { cls := Value.type "tuple", data := Data.seq #[Value.int 14 0, Value.int 95 0, Value.int 4 0, Value.int 1 0, Value.int 1 0, Value.int 10 0, Value.int 3 0, Value.int 16843008 0, Value.int 16843009 0, Value.int 16843009 0, Value.int 16843009 0, Value.int 16843009 0, Value.int 16843009 0, Value.int 16843009 0, Value.int 16843009 0, Value.int 16843010 0, Value.int 16843009 0, Value.int 16843009 0, Value.int 16843009 0, Value.int 16843009 0, Value.int 16843009 0, Value.int 16843009 0, Value.int 16843009 0, Value.int 16843009 0, Value.int 16843009 0, Value.int 16843009 0, Value.int 16843009 0, Value.int 16843009 0, Value.int 16843009 0, Value.int 16843009 0, Value.int 16843009 0, Value.int 16843009 0, Value.int 16843009 0, Value.int 16843009 0, Value.int 16843009 0, Value.int 16843009 0, Value.int 16843009 0, Value.int 16843009 0, Value.int 16843009 0, Value.int 16843009 0, Value.int 16843009 0, Value.int 16843009 0, Value.int 16843009 0, Value.int 16843009 0, Value.int 16843009 0, Value.int 16843009 0, Value.int 16843009 0, Value.int 16843009 0, Value.int 16843009 0, Value.int 16843009 0, Value.int 16843009 0, Value.int 16843009 0, Value.int 16843009 0, Value.int 16843009 0, Value.int 16843009 0, Value.int 16843009 0, Value.int 16843009 0, Value.int 16843009 0, Value.int 16843009 0, Value.int 16843009 0, Value.int 16843009 0, Value.int 16843009 0, Value.int 16843009 0, Value.int 16843009 0, Value.int 16843009 0, Value.int 16843009 0, Value.int 16843009 0, Value.int 16843009 0, Value.int 16843009 0, Value.int 16843009 0, Value.int 16843009 0, Value.int 0 0, Value.int 201330688 0, Value.int 0 0, Value.int 0 0, Value.int 0 0, Value.int 0 0, Value.int 0 0, Value.int 0 0, Value.int 0 0, Value.int 0 0, Value.int 0 0, Value.int 0 0, Value.int 0 0, Value.int 0 0, Value.int 0 0, Value.int 0 0, Value.int 33554432 0, Value.int 0 0, Value.int 0 0, Value.int 0 0, Value.int 0 0, Value.int 0 0, Value.int 0 0, Value.int 0 0, Value.int 0 0, Value.int 13 0, Value.int 92 0, Value.int 10 0, Value.int 3 0, Value.int 16843008 0, Value.int 16843009 0, Value.int 16843009 0, Value.int 16843009 0, Value.int 16843009 0, Value.int 16843009 0, Value.int 16843009 0, Value.int 16843009 0, Value.int 16843010 0, Value.int 16843009 0, Value.int 16843009 0, Value.int 16843009 0, Value.int 16843009 0, Value.int 16843009 0, Value.int 16843009 0, Value.int 16843009 0, Value.int 16843009 0, Value.int 16843009 0, Value.int 16843009 0, Value.int 16843009 0, Value.int 16843009 0, Value.int 16843009 0, Value.int 16843009 0, Value.int 16843009 0, Value.int 16843009 0, Value.int 16843009 0, Value.int 16843009 0, Value.int 16843009 0, Value.int 16843009 0, Value.int 16843009 0, Value.int 16843009 0, Value.int 16843009 0, Value.int 16843009 0, Value.int 16843009 0, Value.int 16843009 0, Value.int 16843009 0, Value.int 16843009 0, Value.int 16843009 0, Value.int 16843009 0, Value.int 16843009 0, Value.int 16843009 0, Value.int 16843009 0, Value.int 16843009 0, Value.int 16843009 0, Value.int 16843009 0, Value.int 16843009 0, Value.int 16843009 0, Value.int 16843009 0, Value.int 16843009 0, Value.int 16843009 0, Value.int 16843009 0, Value.int 16843009 0, Value.int 16843009 0, Value.int 16843009 0, Value.int 16843009 0, Value.int 16843009 0, Value.int 16843009 0, Value.int 16843009 0, Value.int 16843009 0, Value.int 16843009 0, Value.int 16843009 0, Value.int 16843009 0, Value.int 16843009 0, Value.int 16843009 0, Value.int 0 0, Value.int 201330688 0, Value.int 0 0, Value.int 0 0, Value.int 0 0, Value.int 0 0, Value.int 0 0, Value.int 0 0, Value.int 0 0, Value.int 0 0, Value.int 0 0, Value.int 0 0, Value.int 0 0, Value.int 0 0, Value.int 0 0, Value.int 0 0, Value.int 33554432 0, Value.int 0 0, Value.int 0 0, Value.int 0 0, Value.int 0 0, Value.int 0 0, Value.int 0 0, Value.int 0 0, Value.int 0 0, Value.int 1 0] }
noncomputable def hd.o_343 : Params → Obj := fun P => { cls := Value.type "tuple", data := Data.seq #[] }
noncomputable def hd.o_359 : Params → Obj := fun P => { cls := Value.type "code", data := Data.fields #[Value.str (Str.ofString "dquote") 694, Value.str (Str.ofString "dquote") 695, Value.str (Str.ofString "/claim/cut.py") 696, Value.int 110 0, Value.int 2 0, Value.int 0 0, Value.int 0 0, Value.int 3 0, Value.ref 212, Value.bool true, Value.int 276 0, Value.ref 213, Value.none, Value.ref 214, Value.ref 215, Value.ref 216, Value.int 699 0, Value.int 110 0, Value.str (Str.ofString "/claim/cut.py") 700] }
noncomputable def hd.o_355 : Params → Obj := fun P => { cls := Value.none, data := Data.fields #[] }
noncomputable def hd.o_341 : Params → Obj := fun P => { cls := Value.none, data := Data.fields #[Value.int 2 0, Value.int 0 0, Value.ref 37, Value.int 8 0, Value.int 0 0, Value.ref 46, Value.int 16 0, Value.int 0 0, Value.ref 53, Value.int 20 0, Value.int 0 0, Value.ref 60, Value.int 28 0, Value.int 0 0, Value.ref 67, Value.int 40 0, Value.int 0 0, Value.ref 75, Value.int 103 0, Value.int 0 0, Value.ref 204, Value.int 110 0, Value.int 0 0, Value.ref 217, Value.int 115 0, Value.int 0 0, Value.ref 225] }
noncomputable def hd.o_347 : Params → Obj := fun P => { cls := Value.type "function", data := Data.func { name := Str.ofString "param_value", qualname := Str.ofString "param_value", params := (fa [14]), body := FuncBody.stmts (fb [14]), scope := (fs [14]), globals := 3, closure := [], defaults := Value.ref 200, kwdefaults := Value.none, pyModule := Value.str (Str.ofString "icalendar.parser.parameter") 490, code := Value.ref 204 } }
noncomputable def hd.o_363 : Params → Obj := fun P => { cls := Value.none, data := Data.fields #[] }
noncomputable def hd.o_366 : Params → Obj := fun P => { cls := Value.none, data := Data.func { name := Str.ofString "q_join", qualname := Str.ofString "q_join", params := (fa [17]), body := FuncBody.stmts (fb [17]), scope := (fs [17]), globals := 0, closure := [], defaults := Value.none, kwdefaults := Value.none } }
noncomputable def hd.o_350 : Params → Obj := fun P => { cls := Value.type "tuple", data := Data.seq #[Value.none] }
noncomputable def hd.o_342 : Params → Obj := fun P => { cls := Value.type "tuple", data := Data.seq #[Value.bool false] }
noncomputable def hd.o_358 : Params → Obj := fun P => { cls := Value.none, data := Data.func { name := Str.ofString "dquote", qualname := Str.ofString "dquote", params := (fa [16]), body := FuncBody.stmts (fb [16]), scope := (fs [16]), globals := 0, closure := [], defaults := Value.none, kwdefaults := Value.none } }
noncomputable def hd.o_354 : Params → Obj := fun P => { cls := Value.type "tuple", data := Data.seq #[] }
noncomputable def hd.o_346 : Params → Obj := fun P => { cls := Value.type "code", data := Data.fields #[Value.str (Str.ofString "param_value") 492, Value.str (Str.ofString "param_value") 493, Value.str (Str.ofString "/claim/cut.py") 494, Value.int 103 0, Value.int 2 0, Value.int 0 0, Value.int 0 0, Value.int 3 0, Value.ref 201, Value.bool true, Value.int 276 0, Value.ref 202, Value.none, Value.none, Value.none, Value.ref 203, Value.int 495 0, Value.int 103 0, Value.str (Str.ofString "/claim/cut.py") 496] }
noncomputable def hd.o_362 : Params → Obj := fun P => { cls := Value.type "tuple", data := Data.seq #[] }
noncomputable def hd.o_368 : Params → Obj := fun P => { cls := Value.type "function", data := Data.func { name := Str.ofString "q_join", qualname := Str.ofString "q_join", params := (fa [17]), body := FuncBody.stmts (fb [17]), scope := (fs [17]), globals := 3, closure := [], defaults := Value.ref 219, kwdefaults := Value.none, pyModule := Value.str (Str.ofString "icalendar.parser.parameter") 490, code := Value.ref 225 } }
noncomputable def hd.o_352 : Params → Obj := fun P => { cls := Value.type "re.Pattern", data := Data.fields #[Value.str (Str.ofString "[,;:’]") 499, Value.int 32 692, Value.int 0 0, Value.none, Value.none, Value.ref 209, Value.int 0 0] }
noncomputable def hd.o_344 : Params → Obj := fun P => { cls := Value.none, data := Data.fields #[] }
noncomputable def hd.o_360 : Params → Obj := fun P => { cls := Value.type "function", data := Data.func { name := Str.ofString "dquote", qualname := Str.ofString "dquote", params := (fa [16]), body := FuncBody.stmts (fb [16]), scope := (fs [16]), globals := 3, closure := [], defaults := Value.ref 211, kwdefaults := Value.none, pyModule := Value.str (Str.ofString "icalendar.parser.parameter") 490, code := Value.ref 217 } }
noncomputable def hd.o_356 : Params → Obj := fun P => { cls := Value.type "tuple", data := Data.seq #[Value.str (Str.ofString "val") 697, Value.str (Str.ofString "always_quote") 698] }
noncomputable def hd.o_348 : Params → Obj := fun P => { cls := Value.type "list", data := Data.seq #[Value.int 14 501, Value.int 95 502, Value.int 4 503, Value.int 1 504, Value.int 1 505, Value.int 10 506, Value.int 3 507, Value.int 16843008 508, Value.int 16843009 509, Value.int 16843009 510, Value.int 16843009 511, Value.int 16843009 512, Value.int 16843009 513, Value.int 16843009 514, Value.int 16843009 515, Value.int 16843010 516, Value.int 16843009 517, Value.int 16843009 518, Value.int 16843009 519, Value.int 16843009 520, Value.int 16843009 521, Value.int 16843009 522, Value.int 16843009 523, Value.int 16843009 524, Value.int 16843009 525, Value.int 16843009 526, Value.int 16843009 527, Value.int 16843009 528, Value.int 16843009 529, Value.int 16843009 530, Value.int 16843009 531, Value.int 16843009 532, Value.int 16843009 533, Value.int 16843009 534, Value.int 16843009 535, Value.int 16843009 536, Value.int 16843009 537, Value.int 16843009 538, Value.int 16843009 539, Value.int 16843009 540, Value.int 16843009 541, Value.int 16843009 542, Value.int 16843009 543, Value.int 16843009 544, Value.int 16843009 545, Value.int 16843009 546, Value.int 16843009 547, Value.int 16843009 548, Value.int 16843009 549, Value.int 16843009 550, Value.int 16843009 551, Value.int 16843009 552, Value.int 16843009 553, Value.int 16843009 554, Value.int 16843009 555, Value.int 16843009 556, Value.int 16843009 557, Value.int 16843009 558, Value.int 16843009 559, Value.int 16843009 560, Value.int 16843009 561, Value.int 16843009 562, Value.int 16843009 563, Value.int 16843009 564, Value.int 16843009 565, Value.int 16843009 566, Value.int 16843009 567, Value.int 16843009 568, Value.int 16843009 569, Value.int 16843009 570, Value.int 16843009 571, Value.int 0 572, Value.int 201330688 573, Value.int 0 574, Value.int 0 575, Value.int 0 576, Value.int 0 577, Value.int 0 578, Value.int 0 579, Value.int 0 580, Value.int 0 581, Value.int 0 582, Value.int 0 583, Value.int 0 584, Value.int 0 585, Value.int 0 586, Value.int 0 587, Value.int 33554432 588, Value.int 0 589, Value.int 0 590, Value.int 0 591, Value.int 0 592, Value.int 0 593, Value.int 0 594, Value.int 0 595, Value.int 0 596, Value.int 13 597, Value.int 92 598, Value.int 10 599, Value.int 3 600, Value.int 16843008 601, Value.int 16843009 602, Value.int 16843009 603, Value.int 16843009 604, Value.int 16843009 605, Value.int 16843009 606, Value.int 16843009 607, Value.int 16843009 608, Value.int 16843010 609, Value.int 16843009 610, Value.int 16843009 611, Value.int 16843009 612, Value.int 16843009 613, Value.int 16843009 614, Value.int 16843009 615, Value.int 16843009 616, Value.int 16843009 617, Value.int 16843009 618, Value.int 16843009 619, Value.int 16843009 620, Value.int 16843009 621, Value.int 16843009 622, Value.int 16843009 623, Value.int 16843009 624, Value.int 16843009 625, Value.int 16843009 626, Value.int 16843009 627, Value.int 16843009 628, Value.int 16843009 629, Value.int 16843009 630, Value.int 16843009 631, Value.int 16843009 632, Value.int 16843009 633, Value.int 16843009 634, Value.int 16843009 635, Value.int 16843009 636, Value.int 16843009 637, Value.int 16843009 638, Value.int 16843009 639, Value.int 16843009 640, Value.int 16843009 641, Value.int 16843009 642, Value.int 16843009 643, Value.int 16843009 644, Value.int 16843009 645, Value.int 16843009 646, Value.int 16843009 647, Value.int 16843009 648, Value.int 16843009 649, Value.int 16843009 650, Value.int 16843009 651, Value.int 16843009 652, Value.int 16843009 653, Value.int 16843009 654, Value.int 16843009 655, Value.int 16843009 656, Value.int 16843009 657, Value.int 16843009 658, Value.int 16843009 659, Value.int 16843009 660, Value.int 16843009 661, Value.int 16843009 662, Value.int 16843009 663, Value.int 16843009 664, Value.int 0 665, Value.int 201330688 666, Value.int 0 667, Value.int 0 668, Value.int 0 669, Value.int 0 670, Value.int 0 671, Value.int 0 672, Value.int 0 673, Value.int 0 674, Value.int 0 675, Value.int 0 676, Value.int 0 677, Value.int 0 678, Value.int 0 679, Value.int 0 680, Value.int 33554432 681, Value.int 0 682, Value.int 0 683, Value.int 0 684, Value.int 0 685, Value.int 0 686, Value.int 0 687, Value.int 0 688, Value.int 0 689, Value.int 1 690] }
noncomputable def hd.o_364 : Params → Obj := fun P => { cls := Value.type "tuple", data := Data.seq #[Value.str (Str.ofString "lst") 706, Value.str (Str.ofString "sep") 707, Value.str (Str.ofString "always_quote") 708] }
noncomputable def hd.o_369 : Params → Obj := fun P => { cls := Value.type "dict", data := Data.dict #[{ hash := PyData.keyHash P (Str.ofString "__name__"), key := Value.str (Str.ofString "__name__") 165, val := Value.str (Str.ofString "icalendar.parser.parameter") 490 }, { hash := PyData.keyHash P (Str.ofString "__doc__"), key := Value.str (Str.ofString "__doc__") 166, val := Value.none }, { hash := PyData.keyHash P (Str.ofString "__package__"), key := Value.str (Str.ofString "__package__") 167, val := Value.none }, { hash := PyData.keyHash P (Str.ofString "__loader__"), key := Value.str (Str.ofString "__loader__") 168, val := Value.builtin "__main__.__loader__#opaque" }, { hash := PyData.keyHash P (Str.ofString "__spec__"), key := Value.str (Str.ofString "__spec__") 169, val := Value.none }, { hash := PyData.keyHash P (Str.ofString "__annotations__"), key := Value.str (Str.ofString "__annotations__") 170, val := Value.ref 6 }, { hash := PyData.keyHash P (Str.ofString "__builtins__"), key := Value.str (Str.ofString "__builtins__") 171, val := Value.ref 4 }, { hash := PyData.keyHash P (Str.ofString "__file__"), key := Value.str (Str.ofString "__file__") 173, val := Value.str (Str.ofString "/claim/cut.py") 172 }, { hash := PyData.keyHash P (Str.ofString "__cached__"), key := Value.str (Str.ofString "__cached__") 174, val := Value.none }, { hash := PyData.keyHash P (Str.ofString "_sre"), key := Value.str (Str.ofString "_sre") 275, val := Value.ref 12 }, { hash := PyData.keyHash P (Str.ofString "_wall"), key := Value.str (Str.ofString "_wall") 288, val := Value.ref 38 }, { hash := PyData.keyHash P (Str.ofString "SEQUENCE_TYPES"), key := Value.str (Str.ofString "SEQUENCE_TYPES") 291, val := Value.ref 39 }, { hash := PyData.keyHash P (Str.ofString "DEFAULT_ENCODING"), key := Value.str (Str.ofString "DEFAULT_ENCODING") 293, val := Value.str (Str.ofString "utf-8") 292 }, { hash := PyData.keyHash P (Str.ofString "to_unicode"), key := Value.str (Str.ofString "to_unicode") 302, val := Value.ref 47 }, { hash := PyData.keyHash P (Str.ofString "_escape_char"), key := Value.str (Str.ofString "_escape_char") 311, val := Value.ref 54 }, { hash := PyData.keyHash P (Str.ofString "_unescape_char"), key := Value.str (Str.ofString "_unescape_char") 318, val := Value.ref 61 }, { hash := PyData.keyHash P (Str.ofString "unescape_backslash"), key := Value.str (Str.ofString "unescape_backslash") 329, val := Value.ref 68 }, { hash := PyData.keyHash P (Str.ofString "CaselessDict"), key := Value.str (Str.ofString "CaselessDict") 489, val := Value.ref 195 }, { hash := PyData.keyHash P (Str.ofString "param_value"), key := Value.str (Str.ofString "param_value") 497, val := Value.ref 205 }, { hash := PyData.keyHash P (Str.ofString "QUOTABLE"), key := Value.str (Str.ofString "QUOTABLE") 693, val := Value.ref 210 }, { hash := PyData.keyHash P (Str.ofString "dquote"), key := Value.str (Str.ofString "dquote") 701, val := Value.ref 218 }, { hash := PyData.keyHash P (Str.ofString "q_join"), key := Value.str (Str.ofString "q_join") 712, val := Value.ref 226 }, { hash := PyData.keyHash P (Str.ofString "Parameters"), key := Value.str (Str.ofString "Parameters") 803, val := Value.ref 279 }] 23 }
noncomputable def hd.o_400 : Params → Obj := fun P => { cls := Value.none, data := Data.func { name := Str.ofString "to_ical", qualname := Str.ofString "Parameters.to_ical", params := (fa [18, 4]), body := FuncBody.stmts (fb [18, 4]), scope := (fs [18, 4]), globals := 0, closure := [], defaults := Value.none, kwdefaults := Value.none } }
noncomputable def hd.o_416 : Params → Obj := fun P => { cls := Value.type "tuple", data := Data.seq #[Value.str (Str.ofString "self") 793, Value.str (Str.ofString "value") 794] }
noncomputable def hd.o_384 : Params → Obj := fun P => { cls := Value.type "code", data := Data.fields #[Value.str (Str.ofString "__init__") 725, Value.str (Str.ofString "Parameters.__init__") 726, Value.str (Str.ofString "/claim/cut.py") 727, Value.int 119 0, Value.int 1 0, Value.int 0 0, Value.int 0 0, Value.int 15 0, Value.ref 236, Value.bool true, Value.int 276 0, Value.ref 237, Value.none, Value.none, Value.none, Value.ref 238, Value.int 729 0, Value.int 119 0, Value.str (Str.ofString "/claim/cut.py") 730] }
noncomputable def hd.o_408 : Params → Obj := fun P => { cls := Value.none, data := Data.func { name := Str.ofString "from_ical", qualname := Str.ofString "Parameters.from_ical", params := (fa [18, 5]), body := FuncBody.stmts (fb [18, 5]), scope := (fs [18, 5]), globals := 0, closure := [], defaults := Value.none, kwdefaults := Value.none } }
noncomputable def hd.o_376 : Params → Obj := fun P => { cls := Value.type "tuple", data := Data.seq #[] }
noncomputable def hd.o_424 : Params → Obj := fun P => { cls := Value.type "type", data := Data.cls { name := Str.ofString "Parameters", bases := [Value.ref 195], mro := [Value.ref 279, Value.ref 195, Value.type "dict", Value.type "object"], ns := 278, qualname := Str.ofString "Parameters" }, slots := #[some (Value.ref 227), none, some (Value.str (Str.ofString "Parameters") 713), some (Value.str (Str.ofString "Parameters") 721), some (Value.builtin "dict.__new__"), some (Value.bool true)] }
noncomputable def hd.o_392 : Params → Obj := fun P => { cls := Value.none, data := Data.func { name := Str.ofString "params", qualname := Str.ofString "Parameters.params", params := (fa [18, 3]), body := FuncBody.stmts (fb [18, 3]), scope := (fs [18, 3]), globals := 0, closure := [], defaults := Value.none, kwdefaults := Value.none } }
noncomputable def hd.o_404 : Params → Obj := fun P => { cls := Value.type "tuple", data := Data.seq #[] }
noncomputable def hd.o_371 : Params → Obj := fun P => { cls := Value.type "type", data := Data.cls { name := Str.ofString "CaselessDict", bases := [Value.type "dict"], mro := [Value.ref 195, Value.type "dict", Value.type "object"], ns := 194, qualname := Str.ofString "CaselessDict", subclasses := [Value.ref 279] }, slots := #[some (Value.ref 69), none, some (Value.str (Str.ofString "CaselessDict") 332), some (Value.str (Str.ofString "CaselessDict") 340), some (Value.builtin "dict.__new__"), some (Value.bool true)] }
noncomputable def hd.o_372 : Params → Obj := fun P => { cls := Value.type "tuple", data := Data.seq #[Value.ref 195] }
noncomputable def hd.o_420 : Params → Obj := fun P => { cls := Value.type "function", data := Data.func { name := Str.ofString "value", qualname := Str.ofString "Parameters.value", params := (fa [18, 6]), body := FuncBody.stmts (fb [18, 6]), scope := (fs [18, 6]), globals := 3, closure := [], defaults := Value.none, kwdefaults := Value.none, pyModule := Value.str (Str.ofString "icalendar.parser.parameter") 490, code := Value.ref 274 } }
noncomputable def hd.o_388 : Params → Obj := fun P => { cls := Value.type "tuple", data := Data.seq #[] }
noncomputable def hd.o_412 : Params → Obj := fun P => { cls := Value.type "classmethod", dict := some 266, data := Data.fields #[Value.ref 265, Value.bool false] }
noncomputable def hd.o_380 : Params → Obj := fun P => { cls := Value.type "tuple", data := Data.seq #[Value.ref 230] }
noncomputable def hd.o_396 : Params → Obj := fun P => { cls := Value.type "tuple", data := Data.seq #[] }
noncomputable def hd.o_402 : Params → Obj := fun P => { cls := Value.type "function", data := Data.func { name := Str.ofString "to_ical", qualname := Str.ofString "Parameters.to_ical", params := (fa [18, 4]), body := FuncBody.stmts (fb [18, 4]), scope := (fs [18, 4]), globals := 3, closure := [], defaults := Value.ref 250, kwdefaults := Value.none, pyModule := Value.str (Str.ofString "icalendar.parser.parameter") 490, code := Value.ref 256 } }
noncomputable def hd.o_418 : Params → Obj := fun P => { cls := Value.none, data := Data.func { name := Str.ofString "value", qualname := Str.ofString "Parameters.value", params := (fa [18, 6]), body := FuncBody.stmts (fb [18, 6]), scope := (fs [18, 6]), globals := 0, closure := [], defaults := Value.none, kwdefaults := Value.none } }
noncomputable def hd.o_386 : Params → Obj := fun P => { cls := Value.type "tuple", data := Data.seq #[Value.str (Str.ofString "ALTREP") 732, Value.str (Str.ofString "DELEGATED-FROM") 733, Value.str (Str.ofString "DELEGATED-TO") 734, Value.str (Str.ofString "DIR") 735, Value.str (Str.ofString "MEMBER") 736, Value.str (Str.ofString "SENT-BY") 737, Value.str (Str.ofString "X-ADDRESS") 738, Value.str (Str.ofString "X-TITLE") 739, Value.str (Str.ofString "LINKREL") 740] }
noncomputable def hd.o_410 : Params → Obj := fun P => { cls := Value.type "function", data := Data.func { name := Str.ofString "from_ical", qualname := Str.ofString "Parameters.from_ical", params := (fa [18, 5]), body := FuncBody.stmts (fb [18, 5]), scope := (fs [18, 5]), globals := 3, closure := [], defaults := Value.ref 258, kwdefaults := Value.none, pyModule := Value.str (Str.ofString "icalendar.parser.parameter") 490, annotations := some 268, code := Value.ref 264 } }
noncomputable def hd.o_378 : Params → Obj := fun P => { cls := Value.type "code", data := Data.fields #[Value.str (Str.ofString "Parameters") 715, Value.str (Str.ofString "Parameters") 716, Value.str (Str.ofString "/claim/cut.py") 717, Value.int 117 0, Value.int 0 0, Value.int 0 0, Value.int 0 0, Value.int 0 0, Value.ref 231, Value.bool false, Value.int 276 0, Value.ref 232, Value.none, Value.none, Value.none, Value.none, Value.int 718 0, Value.int 117 0, Value.str (Str.ofString "/claim/cut.py") 719] }
noncomputable def hd.o_426 : Params → Obj := fun P => { cls := Value.type "builtin_function_or_method", data := Data.fields #[Value.builtin "object.__init_subclass__", Value.ref 279] }
noncomputable def hd.o_394 : Params → Obj := fun P => { cls := Value.type "function", data := Data.func { name := Str.ofString "params", qualname := Str.ofString "Parameters.params", params := (fa [18, 3]), body := FuncBody.stmts (fb [18, 3]), scope := (fs [18, 3]), globals := 3, closure := [], defaults := Value.none, kwdefaults := Value.none, pyModule := Value.str (Str.ofString "icalendar.parser.parameter") 490, code := Value.ref 248 } }
noncomputable def hd.o_406 : Params → Obj := fun P => { cls := Value.type "tuple", data := Data.seq #[Value.str (Str.ofString "cls") 772, Value.str (Str.ofString "st") 773, Value.str (Str.ofString "strict") 774] }
noncomputable def hd.o_374 : Params → Obj := fun P => { cls := Value.type "dict", data := Data.dict #[{ hash := PyData.keyHash P (Str.ofString "__module__"), key := Value.str (Str.ofString "__module__") 720, val := Value.str (Str.ofString "icalendar.parser.parameter") 490 }, { hash := PyData.keyHash P (Str.ofString "__qualname__"), key := Value.str (Str.ofString "__qualname__") 722, val := Value.str (Str.ofString "Parameters") 721 }, { hash := PyData.keyHash P (Str.ofString "__firstlineno__"), key := Value.str (Str.ofString "__firstlineno__") 724, val := Value.int 117 723 }, { hash := PyData.keyHash P (Str.ofString "__init__"), key := Value.str (Str.ofString "__init__") 731, val := Value.ref 240 }, { hash := PyData.keyHash P (Str.ofString "always_quoted"), key := Value.str (Str.ofString "always_quoted") 741, val := Value.ref 241 }, { hash := PyData.keyHash P (Str.ofString "quote_also"), key := Value.str (Str.ofString "quote_also") 745, val := Value.ref 242 }, { hash := PyData.keyHash P (Str.ofString "params"), key := Value.str (Str.ofString "params") 752, val := Value.ref 249 }, { hash := PyData.keyHash P (Str.ofString "to_ical"), key := Value.str (Str.ofString "to_ical") 768, val := Value.ref 257 }, { hash := PyData.keyHash P (Str.ofString "from_ical"), key := Value.str (Str.ofString "from_ical") 789, val := Value.ref 267 }, { hash := PyData.keyHash P (Str.ofString "value"), key := Value.str (Str.ofString "value") 798, val := Value.ref 276 }, { hash := PyData.keyHash P (Str.ofString "__static_attributes__"), key := Value.str (Str.ofString "__static_attributes__") 799, val := Value.ref 277 }, { hash := PyData.keyHash P (Str.ofString "__classcell__"), key := Value.str (Str.ofString "__classcell__") 800, val := Value.ref 230 }] 12 }
noncomputable def hd.o_422 : Params → Obj := fun P => { cls := Value.type "tuple", data := Data.seq #[] }
noncomputable def hd.o_390 : Params → Obj := fun P => { cls := Value.type "tuple", data := Data.seq #[Value.str (Str.ofString "self") 749] }
noncomputable def hd.o_370 : Params → Obj := fun P => { cls := Value.none, data := Data.fields #[Value.int 2 0, Value.int 0 0, Value.ref 37, Value.int 8 0, Value.int 0 0, Value.ref 46, Value.int 16 0, Value.int 0 0, Value.ref 53, Value.int 20 0, Value.int 0 0, Value.ref 60, Value.int 28 0, Value.int 0 0, Value.ref 67, Value.int 40 0, Value.int 0 0, Value.ref 75, Value.int 103 0, Value.int 0 0, Value.ref 204, Value.int 110 0, Value.int 0 0, Value.ref 217, Value.int 115 0, Value.int 0 0, Value.ref 225, Value.int 117 0, Value.int 0 0, Value.ref 233] }
noncomputable def hd.o_414 : Params → Obj := fun P => { cls := Value.type "tuple", data := Data.seq #[] }
noncomputable def hd.o_382 : Params → Obj := fun P => { cls := Value.none, data := Data.fields #[] }
noncomputable def hd.o_398 : Params → Obj := fun P => { cls := Value.type "tuple", data := Data.seq #[Value.str (Str.ofString "self") 756, Value.str (Str.ofString "sorted") 757, Value.str (Str.ofString "result") 758, Value.str (Str.ofString "items") 759, Value.str (Str.ofString "key") 760, Value.str (Str.ofString "upper_key") 761, Value.str (Str.ofString "check_quoteable_characters") 762, Value.str (Str.ofString "always_quote") 763, Value.str (Str.ofString "quoted_value") 764] }
noncomputable def hd.o_401 : Params → Obj := fun P => { cls := Value.type "code", data := Data.fields #[Value.str (Str.ofString "to_ical") 753, Value.str (Str.ofString "Parameters.to_ical") 754, Value.str (Str.ofString "/claim/cut.py") 755, Value.int 132 0, Value.int 2 0, Value.int 0 0, Value.int 0 0, Value.int 3 0, Value.ref 251, Value.bool true, Value.int 276 0, Value.ref 252, Value.none, Value.ref 253, Value.ref 254, Value.ref 255, Value.int 766 0, Value.int 132 0, Value.str (Str.ofString "/claim/cut.py") 767] }
noncomputable def hd.o_417 : Params → Obj := fun P => { cls := Value.type "tuple", data := Data.seq #[] }
noncomputable def hd.o_385 : Params → Obj := fun P => { cls := Value.type "function", data := Data.func { name := Str.ofString "__init__", qualname := Str.ofString "Parameters.__init__", params := (fa [18, 0]), body := FuncBody.stmts (fb [18, 0]), scope := (fs [18, 0]), globals := 3, closure := [(Str.ofString "__class__", 230)], defaults := Value.none, kwdefaults := Value.none, pyModule := Value.str (Str.ofString "icalendar.parser.parameter") 490, code := Value.ref 239, closureTuple := Value.ref 235 } }
noncomputable def hd.o_409 : Params → Obj := fun P => { cls := Value.type "code", data := Data.fields #[Value.str (Str.ofString "from_ical") 769, Value.str (Str.ofString "Parameters.from_ical") 770, Value.str (Str.ofString "/claim/cut.py") 771, Value.int 149 0, Value.int 3 0, Value.int 0 0, Value.int 0 0, Value.int 3 0, Value.ref 259, Value.bool true, Value.int 276 0, Value.ref 260, Value.none, Value.ref 261, Value.ref 262, Value.ref 263, Value.int 775 0, Value.int 149 0, Value.str (Str.ofString "/claim/cut.py") 776] }
noncomputable def hd.o_377 : Params → Obj := fun P => { cls := Value.none, data := Data.fields #[Value.int 119 0, Value.int 4 0, Value.ref 239, Value.int 129 0, Value.int 4 0, Value.ref 248, Value.int 132 0, Value.int 4 0, Value.ref 256, Value.int 150 0, Value.int 4 0, Value.ref 264, Value.int 154 0, Value.int 4 0, Value.ref 274] }
noncomputable def hd.o_425 : Params → Obj := fun P => { cls := Value.type "super", data := Data.fields #[Value.ref 279, Value.ref 279, Value.ref 279] }
noncomputable def hd.o_393 : Params → Obj := fun P => { cls := Value.type "code", data := Data.fields #[Value.str (Str.ofString "params") 746, Value.str (Str.ofString "Parameters.params") 747, Value.str (Str.ofString "/claim/cut.py") 748, Value.int 129 0, Value.int 1 0, Value.int 0 0, Value.int 0 0, Value.int 3 0, Value.ref 243, Value.bool true, Value.int 276 0, Value.ref 244, Value.none, Value.ref 245, Value.ref 246, Value.ref 247, Value.int 750 0, Value.int 129 0, Value.str (Str.ofString "/claim/cut.py") 751] }
noncomputable def hd.o_405 : Params → Obj := fun P => { cls := Value.none, data := Data.fields #[] }
noncomputable def hd.o_373 : Params → Obj := fun P => { cls := Value.type "builtin_function_or_method", data := Data.fields #[Value.builtin "type.__prepare__", Value.type "type"] }
noncomputable def hd.o_421 : Params → Obj := fun P => { cls := Value.type "property", data := Data.fields #[Value.ref 275, Value.none, Value.none, Value.none, Value.str (Str.ofString "value") 798, Value.bool false] }
noncomputable def hd.o_389 : Params → Obj := fun P => { cls := Value.none, data := Data.fields #[] }
noncomputable def hd.o_413 : Params → Obj := fun P => { cls := Value.type "dict", data := Data.dict #[] }
noncomputable def hd.o_381 : Params → Obj := fun P => { cls := Value.type "tuple", data := Data.seq #[Value.str (Str.ofString "__class__") 728] }
noncomputable def hd.o_397 : Params → Obj := fun P => { cls := Value.none, data := Data.fields #[] }
noncomputable def hd.o_403 : Params → Obj := fun P => { cls := Value.type "tuple", data := Data.seq #[Value.bool false] }
noncomputable def hd.o_419 : Params → Obj := fun P => { cls := Value.type "code", data := Data.fields #[Value.str (Str.ofString "value") 790, Value.str (Str.ofString "Parameters.value") 791, Value.str (Str.ofString "/claim/cut.py") 792, Value.int 153 0, Value.int 1 0, Value.int 0 0, Value.int 0 0, Value.int 3 0, Value.ref 269, Value.bool true, Value.int 276 0, Value.ref 270, Value.none, Value.ref 271, Value.ref 272, Value.ref 273, Value.int 795 0, Value.int 153 0, Value.str (Str.ofString "/claim/cut.py") 796] }
noncomputable def hd.o_387 : Params → Obj := fun P => { cls := Value.type "dict", data := Data.dict #[{ hash := PyData.keyHash P (Str.ofString "CN"), key := Value.str (Str.ofString "CN") 742, val := Value.str (Str.ofString " '") 743 }] 1 }
noncomputable def hd.o_411 : Params → Obj := fun P => { cls := Value.type "dict", data := Data.dict #[{ hash := PyData.keyHash P (Str.ofString "__module__"), key := Value.str (Str.ofString "__module__") 778, val := Value.str (Str.ofString "icalendar.parser.parameter") 490 }, { hash := PyData.keyHash P (Str.ofString "__name__"), key := Value.str (Str.ofString "__name__") 781, val := Value.str (Str.ofString "from_ical") 780 }, { hash := PyData.keyHash P (Str.ofString "__qualname__"), key := Value.str (Str.ofString "__qualname__") 784, val := Value.str (Str.ofString "Parameters.from_ical") 783 }, { hash := PyData.keyHash P (Str.ofString "__doc__"), key := Value.str (Str.ofString "__doc__") 786, val := Value.none }, { hash := PyData.keyHash P (Str.ofString "__annotations__"), key := Value.str (Str.ofString "__annotations__") 788, val := Value.ref 268 }] 5 }
noncomputable def hd.o_379 : Params → Obj := fun P => { cls := Value.type "frame", slots := #[some (Value.ref 233), some (Value.ref 3), some (Value.ref 229), none, some (Value.str (Str.ofString "icalendar.parser.parameter") 490), none, some (Value.ref 0)] }
noncomputable def hd.o_395 : Params → Obj := fun P => { cls := Value.type "tuple", data := Data.seq #[Value.bool true] }
noncomputable def hd.o_407 : Params → Obj := fun P => { cls := Value.type "tuple", data := Data.seq #[] }
noncomputable def hd.o_375 : Params → Obj := fun P => { cls := Value.type "cell", data := Data.cell (some (Value.ref 279)) }
noncomputable def hd.o_423 : Params → Obj := fun P => { cls := Value.type "dict", data := Data.dict #[{ hash := PyData.keyHash P (Str.ofString "__module__"), key := Value.str (Str.ofString "__module__") 720, val := Value.str (Str.ofString "icalendar.parser.parameter") 490 }, { hash := PyData.keyHash P (Str.ofString "__firstlineno__"), key := Value.str (Str.ofString "__firstlineno__") 724, val := Value.int 117 723 }, { hash := PyData.keyHash P (Str.ofString "__init__"), key := Value.str (Str.ofString "__init__") 731, val := Value.ref 240 }, { hash := PyData.keyHash P (Str.ofString "always_quoted"), key := Value.str (Str.ofString "always_quoted") 741, val := Value.ref 241 }, { hash := PyData.keyHash P (Str.ofString "quote_also"), key := Value.str (Str.ofString "quote_also") 745, val := Value.ref 242 }, { hash := PyData.keyHash P (Str.ofString "params"), key := Value.str (Str.ofString "params") 752, val := Value.ref 249 }, { hash := PyData.keyHash P (Str.ofString "to_ical"), key := Value.str (Str.ofString "to_ical") 768, val := Value.ref 257 }, { hash := PyData.keyHash P (Str.ofString "from_ical"), key := Value.str (Str.ofString "from_ical") 789, val := Value.ref 267 }, { hash := PyData.keyHash P (Str.ofString "value"), key := Value.str (Str.ofString "value") 798, val := Value.ref 276 }, { hash := PyData.keyHash P (Str.ofString "__static_attributes__"), key := Value.str (Str.ofString "__static_attributes__") 799, val := Value.ref 277 }, { hash := PyData.keyHash P (Str.ofString "__doc__"), key := Value.str (Str.ofString "__doc__") 801, val := Value.none }] 3 }
noncomputable def hd.o_391 : Params → Obj := fun P => { cls := Value.type "tuple", data := Data.seq #[] }
noncomputable def hd.o_415 : Params → Obj := fun P => { cls := Value.none, data := Data.fields #[] }
noncomputable def hd.o_383 : Params → Obj := fun P => { cls := Value.none, data := Data.func { name := Str.ofString "__init__", qualname := Str.ofString "Parameters.__init__", params := (fa [18, 0]), body := FuncBody.stmts (fb [18, 0]), scope := (fs [18, 0]), globals := 0, closure := [], defaults := Value.none, kwdefaults := Value.none } }
noncomputable def hd.o_399 : Params → Obj := fun P => { cls := Value.type "tuple", data := Data.seq #[Value.str (Str.ofString "value") 765] }
noncomputable def hd.o_483 : Params → Obj := fun P => { cls := Value.type "dict", data := Data.dict #[{ hash := PyData.keyHash P (Str.ofString "__name__"), key := Value.str (Str.ofString "__name__") 165, val := Value.str (Str.ofString "icalendar.prop.text") 814 }, { hash := PyData.keyHash P (Str.ofString "__doc__"), key := Value.str (Str.ofString "__doc__") 166, val := Value.none }, { hash := PyData.keyHash P (Str.ofString "__package__"), key := Value.str (Str.ofString "__package__") 167, val := Value.none }, { hash := PyData.keyHash P (Str.ofString "__loader__"), key := Value.str (Str.ofString "__loader__") 168, val := Value.builtin "__main__.__loader__#opaque" }, { hash := PyData.keyHash P (Str.ofString "__spec__"), key := Value.str (Str.ofString "__spec__") 169, val := Value.none }, { hash := PyData.keyHash P (Str.ofString "__annotations__"), key := Value.str (Str.ofString "__annotations__") 170, val := Value.ref 6 }, { hash := PyData.keyHash P (Str.ofString "__builtins__"), key := Value.str (Str.ofString "__builtins__") 171, val := Value.ref 4 }, { hash := PyData.keyHash P (Str.ofString "__file__"), key := Value.str (Str.ofString "__file__") 173, val := Value.str (Str.ofString "/claim/cut.py") 172 }, { hash := PyData.keyHash P (Str.ofString "__cached__"), key := Value.str (Str.ofString "__cached__") 174, val := Value.none }, { hash := PyData.keyHash P (Str.ofString "_sre"), key := Value.str (Str.ofString "_sre") 275, val := Value.ref 12 }, { hash := PyData.keyHash P (Str.ofString "_wall"), key := Value.str (Str.ofString "_wall") 288, val := Value.ref 38 }, { hash := PyData.keyHash P (Str.ofString "SEQUENCE_TYPES"), key := Value.str (Str.ofString "SEQUENCE_TYPES") 291, val := Value.ref 39 }, { hash := PyData.keyHash P (Str.ofString "DEFAULT_ENCODING"), key := Value.str (Str.ofString "DEFAULT_ENCODING") 293, val := Value.str (Str.ofString "utf-8") 292 }, { hash := PyData.keyHash P (Str.ofString "to_unicode"), key := Value.str (Str.ofString "to_unicode") 302, val := Value.ref 47 }, { hash := PyData.keyHash P (Str.ofString "_escape_char"), key := Value.str (Str.ofString "_escape_char") 311, val := Value.ref 54 }, { hash := PyData.keyHash P (Str.ofString "_unescape_char"), key := Value.str (Str.ofString "_unescape_char") 318, val := Value.ref 61 }, { hash := PyData.keyHash P (Str.ofString "unescape_backslash"), key := Value.str (Str.ofString "unescape_backslash") 329, val := Value.ref 68 }, { hash := PyData.keyHash P (Str.ofString "CaselessDict"), key := Value.str (Str.ofString "CaselessDict") 489, val := Value.ref 195 }, { hash := PyData.keyHash P (Str.ofString "param_value"), key := Value.str (Str.ofString "param_value") 497, val := Value.ref 205 }, { hash := PyData.keyHash P (Str.ofString "QUOTABLE"), key := Value.str (Str.ofString "QUOTABLE") 693, val := Value.ref 210 }, { hash := PyData.keyHash P (Str.ofString "dquote"), key := Value.str (Str.ofString "dquote") 701, val := Value.ref 218 }, { hash := PyData.keyHash P (Str.ofString "q_join"), key := Value.str (Str.ofString "q_join") 712, val := Value.ref 226 }, { hash := PyData.keyHash P (Str.ofString "Parameters"), key := Value.str (Str.ofString "Parameters") 803, val := Value.ref 279 }, { hash := PyData.keyHash P (Str.ofString "rfc_6868_escape"), key := Value.str (Str.ofString "rfc_6868_escape") 813, val := Value.ref 288 }] 24 }
noncomputable def hd.o_490 : Params → Obj := fun P => { cls := Value.type "code", data := Data.fields #[Value.str (Str.ofString "rfc_6868_escape") 804, Value.str (Str.ofString "rfc_6868_escape") 805, Value.str (Str.ofString "/claim/cut.py") 806, Value.int 159 0, Value.int 1 0, Value.int 0 0, Value.int 0 0, Value.int 3 0, Value.ref 282, Value.bool true, Value.int 276 0, Value.ref 283, Value.none, Value.ref 284, Value.ref 285, Value.ref 286, Value.int 811 0, Value.int 159 0, Value.str (Str.ofString "/claim/cut.py") 812] }
noncomputable def hd.o_486 : Params → Obj := fun P => { cls := Value.none, data := Data.fields #[] }
noncomputable def hd.o_484 : Params → Obj := fun P => { cls := Value.none, data := Data.fields #[Value.int 2 0, Value.int 0 0, Value.ref 37, Value.int 8 0, Value.int 0 0, Value.ref 46, Value.int 16 0, Value.int 0 0, Value.ref 53, Value.int 20 0, Value.int 0 0, Value.ref 60, Value.int 28 0, Value.int 0 0, Value.ref 67, Value.int 40 0, Value.int 0 0, Value.ref 75, Value.int 103 0, Value.int 0 0, Value.ref 204, Value.int 110 0, Value.int 0 0, Value.ref 217, Value.int 115 0, Value.int 0 0, Value.ref 225, Value.int 117 0, Value.int 0 0, Value.ref 233, Value.int 159 0, Value.int 0 0, Value.ref 287] }
noncomputable def hd.o_488 : Params → Obj := fun P => { cls := Value.type "tuple", data := Data.seq #[] }
noncomputable def hd.o_491 : Params → Obj := fun P => { cls := Value.type "function", data := Data.func { name := Str.ofString "rfc_6868_escape", qualname := Str.ofString "rfc_6868_escape", params := (fa [19]), body := FuncBody.stmts (fb [19]), scope := (fs [19]), globals := 3, closure := [], defaults := Value.none, kwdefaults := Value.none, pyModule := Value.str (Str.ofString "icalendar.parser.parameter") 490, code := Value.ref 287 } }
noncomputable def hd.o_487 : Params → Obj := fun P => { cls := Value.type "tuple", data := Data.seq #[Value.str (Str.ofString "param_value") 807, Value.str (Str.ofString "replacements") 808, Value.str (Str.ofString "result") 809, Value.str (Str.ofString "char") 810] }
noncomputable def hd.o_485 : Params → Obj := fun P => { cls := Value.type "tuple", data := Data.seq #[] }
noncomputable def hd.o_489 : Params → Obj := fun P => { cls := Value.none, data := Data.func { name := Str.ofString "rfc_6868_escape", qualname := Str.ofString "rfc_6868_escape", params := (fa [19]), body := FuncBody.stmts (fb [19]), scope := (fs [19]), globals := 0, closure := [], defaults := Value.none, kwdefaults := Value.none } }
noncomputable def hd.o_493 : Params → Obj := fun P => { cls := Value.type "dict", data := Data.dict #[{ hash := PyData.keyHash P (Str.ofString "__name__"), key := Value.str (Str.ofString "__name__") 165, val := Value.str (Str.ofString "icalendar.prop.text") 814 }, { hash := PyData.keyHash P (Str.ofString "__doc__"), key := Value.str (Str.ofString "__doc__") 166, val := Value.none }, { hash := PyData.keyHash P (Str.ofString "__package__"), key := Value.str (Str.ofString "__package__") 167, val := Value.none }, { hash := PyData.keyHash P (Str.ofString "__loader__"), key := Value.str (Str.ofString "__loader__") 168, val := Value.builtin "__main__.__loader__#opaque" }, { hash := PyData.keyHash P (Str.ofString "__spec__"), key := Value.str (Str.ofString "__spec__") 169, val := Value.none }, { hash := PyData.keyHash P (Str.ofString "__annotations__"), key := Value.str (Str.ofString "__annotations__") 170, val := Value.ref 6 }, { hash := PyData.keyHash P (Str.ofString "__builtins__"), key := Value.str (Str.ofString "__builtins__") 171, val := Value.ref 4 }, { hash := PyData.keyHash P (Str.ofString "__file__"), key := Value.str (Str.ofString "__file__") 173, val := Value.str (Str.ofString "/claim/cut.py") 172 }, { hash := PyData.keyHash P (Str.ofString "__cached__"), key := Value.str (Str.ofString "__cached__") 174, val := Value.none }, { hash := PyData.keyHash P (Str.ofString "_sre"), key := Value.str (Str.ofString "_sre") 275, val := Value.ref 12 }, { hash := PyData.keyHash P (Str.ofString "_wall"), key := Value.str (Str.ofString "_wall") 288, val := Value.ref 38 }, { hash := PyData.keyHash P (Str.ofString "SEQUENCE_TYPES"), key := Value.str (Str.ofString "SEQUENCE_TYPES") 291, val := Value.ref 39 }, { hash := PyData.keyHash P (Str.ofString "DEFAULT_ENCODING"), key := Value.str (Str.ofString "DEFAULT_ENCODING") 293, val := Value.str (Str.ofString "utf-8") 292 }, { hash := PyData.keyHash P (Str.ofString "to_unicode"), key := Value.str (Str.ofString "to_unicode") 302, val := Value.ref 47 }, { hash := PyData.keyHash P (Str.ofString "_escape_char"), key := Value.str (Str.ofString "_escape_char") 311, val := Value.ref 54 }, { hash := PyData.keyHash P (Str.ofString "_unescape_char"), key := Value.str (Str.ofString "_unescape_char") 318, val := Value.ref 61 }, { hash := PyData.keyHash P (Str.ofString "unescape_backslash"), key := Value.str (Str.ofString "unescape_backslash") 329, val := Value.ref 68 }, { hash := PyData.keyHash P (Str.ofString "CaselessDict"), key := Value.str (Str.ofString "CaselessDict") 489, val := Value.ref 195 }, { hash := PyData.keyHash P (Str.ofString "param_value"), key := Value.str (Str.ofString "param_value") 497, val := Value.ref 205 }, { hash := PyData.keyHash P (Str.ofString "QUOTABLE"), key := Value.str (Str.ofString "QUOTABLE") 693, val := Value.ref 210 }, { hash := PyData.keyHash P (Str.ofString "dquote"), key := Value.str (Str.ofString "dquote") 701, val := Value.ref 218 }, { hash := PyData.keyHash P (Str.ofString "q_join"), key := Value.str (Str.ofString "q_join") 712, val := Value.ref 226 }, { hash := PyData.keyHash P (Str.ofString "Parameters"), key := Value.str (Str.ofString "Parameters") 803, val := Value.ref 279 }, { hash := PyData.keyHash P (Str.ofString "rfc_6868_escape"), key := Value.str (Str.ofString "rfc_6868_escape") 813, val := Value.ref 288 }, { hash := PyData.keyHash P (Str.ofString "vText"), key := Value.str (Str.ofString "vText") 893, val := Value.ref 335 }] 25 }
noncomputable def hd.o_525 : Params → Obj := fun P => { cls := Value.type "code", data := Data.fields #[Value.str (Str.ofString "from_ical") 852, Value.str (Str.ofString "vText.from_ical") 853, Value.str (Str.ofString "/claim/cut.py") 854, Value.int 180 0, Value.int 2 0, Value.int 0 0, Value.int 0 0, Value.int 3 0, Value.ref 314, Value.bool true, Value.int 276 0, Value.ref 315, Value.none, Value.ref 316, Value.ref 317, Value.ref 318, Value.int 857 0, Value.int 180 0, Value.str (Str.ofString "/claim/cut.py") 858] }
noncomputable def hd.o_541 : Params → Obj := fun P => { cls := Value.type "type", data := Data.cls { name := Str.ofString "vText", bases := [Value.type "str"], mro := [Value.ref 335, Value.type "str", Value.type "object"], ns := 334, qualname := Str.ofString "vText", hasDict := false, slotNames := [Str.ofString "encoding", Str.ofString "params"] }, slots := #[some (Value.ref 289), none, some (Value.str (Str.ofString "vText") 816), some (Value.str (Str.ofString "vText") 824), some Value.none, some (Value.bool false)] }
noncomputable def hd.o_509 : Params → Obj := fun P => { cls := Value.type "tuple", data := Data.seq #[] }
noncomputable def hd.o_533 : Params → Obj := fun P => { cls := Value.type "tuple", data := Data.seq #[] }
noncomputable def hd.o_501 : Params → Obj := fun P => { cls := Value.type "code", data := Data.fields #[Value.str (Str.ofString "vText") 818, Value.str (Str.ofString "vText") 819, Value.str (Str.ofString "/claim/cut.py") 820, Value.int 166 0, Value.int 0 0, Value.int 0 0, Value.int 0 0, Value.int 0 0, Value.ref 293, Value.bool false, Value.int 276 0, Value.ref 294, Value.none, Value.none, Value.none, Value.none, Value.int 821 0, Value.int 166 0, Value.str (Str.ofString "/claim/cut.py") 822] }
noncomputable def hd.o_517 : Params → Obj := fun P => { cls := Value.none, data := Data.func { name := Str.ofString "to_ical", qualname := Str.ofString "vText.to_ical", params := (fa [21, 3]), body := FuncBody.stmts (fb [21, 3]), scope := (fs [21, 3]), globals := 0, closure := [], defaults := Value.none, kwdefaults := Value.none } }
noncomputable def hd.o_529 : Params → Obj := fun P => { cls := Value.type "dict", data := Data.dict #[] }
noncomputable def hd.o_497 : Params → Obj := fun P => { cls := Value.type "dict", data := Data.dict #[{ hash := PyData.keyHash P (Str.ofString "__module__"), key := Value.str (Str.ofString "__module__") 823, val := Value.str (Str.ofString "icalendar.prop.text") 814 }, { hash := PyData.keyHash P (Str.ofString "__qualname__"), key := Value.str (Str.ofString "__qualname__") 825, val := Value.str (Str.ofString "vText") 824 }, { hash := PyData.keyHash P (Str.ofString "__firstlineno__"), key := Value.str (Str.ofString "__firstlineno__") 827, val := Value.int 166 826 }, { hash := PyData.keyHash P (Str.ofString "default_value"), key := Value.str (Str.ofString "default_value") 829, val := Value.str (Str.ofString "TEXT") 828 }, { hash := PyData.keyHash P (Str.ofString "__slots__"), key := Value.str (Str.ofString "__slots__") 832, val := Value.ref 297 }, { hash := PyData.keyHash P (Str.ofString "__new__"), key := Value.str (Str.ofString "__new__") 844, val := Value.ref 306 }, { hash := PyData.keyHash P (Str.ofString "to_ical"), key := Value.str (Str.ofString "to_ical") 851, val := Value.ref 313 }, { hash := PyData.keyHash P (Str.ofString "from_ical"), key := Value.str (Str.ofString "from_ical") 871, val := Value.ref 322 }, { hash := PyData.keyHash P (Str.ofString "ical_value"), key := Value.str (Str.ofString "ical_value") 879, val := Value.ref 331 }, { hash := PyData.keyHash P (Str.ofString "__static_attributes__"), key := Value.str (Str.ofString "__static_attributes__") 882, val := Value.ref 332 }, { hash := PyData.keyHash P (Str.ofString "__classcell__"), key := Value.str (Str.ofString "__classcell__") 883, val := Value.ref 292 }] 11 }
noncomputable def hd.o_545 : Params → Obj := fun P => { cls := Value.type "super", data := Data.fields #[Value.ref 335, Value.ref 335, Value.ref 335] }
noncomputable def hd.o_513 : Params → Obj := fun P => { cls := Value.type "tuple", data := Data.seq #[] }
noncomputable def hd.o_537 : Params → Obj := fun P => { cls := Value.type "property", data := Data.fields #[Value.ref 330, Value.none, Value.none, Value.none, Value.str (Str.ofString "ical_value") 879, Value.bool false] }
noncomputable def hd.o_505 : Params → Obj := fun P => { cls := Value.type "tuple", data := Data.seq #[Value.ref 292] }
noncomputable def hd.o_521 : Params → Obj := fun P => { cls := Value.none, data := Data.fields #[] }
noncomputable def hd.o_527 : Params → Obj := fun P => { cls := Value.type "dict", data := Data.dict #[{ hash := PyData.keyHash P (Str.ofString "__module__"), key := Value.str (Str.ofString "__module__") 860, val := Value.str (Str.ofString "icalendar.prop.text") 814 }, { hash := PyData.keyHash P (Str.ofString "__name__"), key := Value.str (Str.ofString "__name__") 863, val := Value.str (Str.ofString "from_ical") 862 }, { hash := PyData.keyHash P (Str.ofString "__qualname__"), key := Value.str (Str.ofString "__qualname__") 866, val := Value.str (Str.ofString "vText.from_ical") 865 }, { hash := PyData.keyHash P (Str.ofString "__doc__"), key := Value.str (Str.ofString "__doc__") 868, val := Value.none }, { hash := PyData.keyHash P (Str.ofString "__annotations__"), key := Value.str (Str.ofString "__annotations__") 870, val := Value.ref 323 }] 5 }
noncomputable def hd.o_495 : Params → Obj := fun P => { cls := Value.type "tuple", data := Data.seq #[Value.type "str"] }
noncomputable def hd.o_543 : Params → Obj := fun P => { cls := Value.type "member_descriptor", data := Data.fields #[Value.str (Str.ofString "encoding") 885, Value.ref 335, Value.builtin "proto.slot", Value.builtin "proto.slot#set", Value.int 1 0] }
noncomputable def hd.o_511 : Params → Obj := fun P => { cls := Value.type "code", data := Data.fields #[Value.str (Str.ofString "__new__") 833, Value.str (Str.ofString "vText.__new__") 834, Value.str (Str.ofString "/claim/cut.py") 835, Value.int 170 0, Value.int 4 0, Value.int 0 0, Value.int 0 0, Value.int 3 0, Value.ref 300, Value.bool true, Value.int 276 0, Value.ref 301, Value.none, Value.ref 302, Value.ref 303, Value.ref 304, Value.int 842 0, Value.int 170 0, Value.str (Str.ofString "/claim/cut.py") 843] }
noncomputable def hd.o_535 : Params → Obj := fun P => { cls := Value.type "code", data := Data.fields #[Value.str (Str.ofString "ical_value") 872, Value.str (Str.ofString "vText.ical_value") 873, Value.str (Str.ofString "/claim/cut.py") 874, Value.int 184 0, Value.int 1 0, Value.int 0 0, Value.int 0 0, Value.int 3 0, Value.ref 324, Value.bool true, Value.int 276 0, Value.ref 325, Value.none, Value.ref 326, Value.ref 327, Value.ref 328, Value.int 876 0, Value.int 184 0, Value.str (Str.ofString "/claim/cut.py") 877] }
noncomputable def hd.o_503 : Params → Obj := fun P => { cls := Value.type "tuple", data := Data.seq #[Value.str (Str.ofString "encoding") 830, Value.str (Str.ofString "params") 831] }
noncomputable def hd.o_519 : Params → Obj := fun P => { cls := Value.type "function", data := Data.func { name := Str.ofString "to_ical", qualname := Str.ofString "vText.to_ical", params := (fa [21, 3]), body := FuncBody.stmts (fb [21, 3]), scope := (fs [21, 3]), globals := 3, closure := [], defaults := Value.none, kwdefaults := Value.none, pyModule := Value.str (Str.ofString "icalendar.prop.text") 814, code := Value.ref 312 } }
noncomputable def hd.o_531 : Params → Obj := fun P => { cls := Value.none, data := Data.fields #[] }
noncomputable def hd.o_499 : Params → Obj := fun P => { cls := Value.type "tuple", data := Data.seq #[] }
noncomputable def hd.o_515 : Params → Obj := fun P => { cls := Value.type "tuple", data := Data.seq #[Value.str (Str.ofString "self") 848] }
noncomputable def hd.o_494 : Params → Obj := fun P => { cls := Value.none, data := Data.fields #[Value.int 2 0, Value.int 0 0, Value.ref 37, Value.int 8 0, Value.int 0 0, Value.ref 46, Value.int 16 0, Value.int 0 0, Value.ref 53, Value.int 20 0, Value.int 0 0, Value.ref 60, Value.int 28 0, Value.int 0 0, Value.ref 67, Value.int 40 0, Value.int 0 0, Value.ref 75, Value.int 103 0, Value.int 0 0, Value.ref 204, Value.int 110 0, Value.int 0 0, Value.ref 217, Value.int 115 0, Value.int 0 0, Value.ref 225, Value.int 117 0, Value.int 0 0, Value.ref 233, Value.int 159 0, Value.int 0 0, Value.ref 287, Value.int 166 0, Value.int 0 0, Value.ref 295] }
noncomputable def hd.o_539 : Params → Obj := fun P => { cls := Value.type "list", data := Data.seq #[Value.str (Str.ofString "encoding") 830, Value.str (Str.ofString "params") 831] 1 }
noncomputable def hd.o_507 : Params → Obj := fun P => { cls := Value.none, data := Data.fields #[] }
noncomputable def hd.o_523 : Params → Obj := fun P => { cls := Value.type "tuple", data := Data.seq #[] }
noncomputable def hd.o_492 : Params → Obj := fun P => { cls := Value.none, data := Data.dict #[{ hash := PyData.keyHash P (Str.ofString "\x69mport.loaded._sre"), key := Value.str (Str.ofString "\x69mport.loaded._sre") 183, val := Value.bool true }, { hash := PyData.keyHash P (Str.ofString "class._frozen_importlib.BuiltinImporter"), key := Value.str (Str.ofString "class._frozen_importlib.BuiltinImporter") 185, val := Value.ref 14 }, { hash := PyData.keyHash P (Str.ofString "watched.\x69mport"), key := Value.str (Str.ofString "watched.\x69mport") 206, val := Value.ref 18 }, { hash := PyData.keyHash P (Str.ofString "class._frozen_importlib.ModuleSpec"), key := Value.str (Str.ofString "class._frozen_importlib.ModuleSpec") 216, val := Value.ref 22 }, { hash := PyData.keyHash P (Str.ofString "sys.modules.booked-epoch"), key := Value.str (Str.ofString "sys.modules.booked-epoch") 245, val := Value.int 3 0 }, { hash := PyData.keyHash P (Str.ofString "\x69mport.later-laid._sre"), key := Value.str (Str.ofString "\x69mport.later-laid._sre") 270, val := Value.bool true }, { hash := PyData.keyHash P (Str.ofString "watched.library"), key := Value.str (Str.ofString "watched.library") 272, val := Value.ref 27 }, { hash := PyData.keyHash P (Str.ofString "watched.library-objects"), key := Value.str (Str.ofString "watched.library-objects") 0, val := Value.str (Str.ofString "\x0c") 0 }, { hash := PyData.keyHash P (Str.ofString "watched.library-deep._sre"), key := Value.str (Str.ofString "watched.library-deep._sre") 273, val := Value.str (Str.ofString "\x04\x00\x00\x0b\x04\x00\x00\x0b\x04\x00\x00\x03\x04\x00\x00\x0b\x08\x04dict\x02") 0 }, { hash := PyData.keyHash P (Str.ofString "type.__subclasses__.str.0"), key := Value.str (Str.ofString "type.__subclasses__.str.0") 890, val := Value.int 335 0 }, { hash := PyData.keyHash P (Str.ofString "type.__subclasses__.str.n"), key := Value.str (Str.ofString "type.__subclasses__.str.n") 891, val := Value.int 1 0 }] 11 }
noncomputable def hd.o_526 : Params → Obj := fun P => { cls := Value.type "function", data := Data.func { name := Str.ofString "from_ical", qualname := Str.ofString "vText.from_ical", params := (fa [21, 4]), body := FuncBody.stmts (fb [21, 4]), scope := (fs [21, 4]), globals := 3, closure := [], defaults := Value.none, kwdefaults := Value.none, pyModule := Value.str (Str.ofString "icalendar.prop.text") 814, annotations := some 323, code := Value.ref 319 } }
noncomputable def hd.o_542 : Params → Obj := fun P => { cls := Value.type "staticmethod", data := Data.fields #[Value.ref 306] }
noncomputable def hd.o_510 : Params → Obj := fun P => { cls := Value.none, data := Data.func { name := Str.ofString "__new__", qualname := Str.ofString "vText.__new__", params := (fa [21, 2]), body := FuncBody.stmts (fb [21, 2]), scope := (fs [21, 2]), globals := 0, closure := [], defaults := Value.none, kwdefaults := Value.none } }
noncomputable def hd.o_534 : Params → Obj := fun P => { cls := Value.none, data := Data.func { name := Str.ofString "ical_value", qualname := Str.ofString "vText.ical_value", params := (fa [21, 5]), body := FuncBody.stmts (fb [21, 5]), scope := (fs [12, 8]), globals := 0, closure := [], defaults := Value.none, kwdefaults := Value.none } }
noncomputable def hd.o_502 : Params → Obj := fun P => { cls := Value.type "frame", slots := #[some (Value.ref 295), some (Value.ref 3), some (Value.ref 291), none, some (Value.str (Str.ofString "icalendar.prop.text") 814), none, some (Value.ref 0)] }
noncomputable def hd.o_518 : Params → Obj := fun P => { cls := Value.type "code", data := Data.fields #[Value.str (Str.ofString "to_ical") 845, Value.str (Str.ofString "vText.to_ical") 846, Value.str (Str.ofString "/claim/cut.py") 847, Value.int 177 0, Value.int 1 0, Value.int 0 0, Value.int 0 0, Value.int 3 0, Value.ref 307, Value.bool true, Value.int 276 0, Value.ref 308, Value.none, Value.ref 309, Value.ref 310, Value.ref 311, Value.int 849 0, Value.int 177 0, Value.str (Str.ofString "/claim/cut.py") 850] }
noncomputable def hd.o_530 : Params → Obj := fun P => { cls := Value.type "tuple", data := Data.seq #[] }
noncomputable def hd.o_498 : Params → Obj := fun P => { cls := Value.type "cell", data := Data.cell (some (Value.ref 335)) }
noncomputable def hd.o_546 : Params → Obj := fun P => { cls := Value.type "builtin_function_or_method", data := Data.fields #[Value.builtin "object.__init_subclass__", Value.ref 335] }
noncomputable def hd.o_514 : Params → Obj := fun P => { cls := Value.none, data := Data.fields #[] }
noncomputable def hd.o_538 : Params → Obj := fun P => { cls := Value.type "tuple", data := Data.seq #[Value.str (Str.ofString "encoding") 880, Value.str (Str.ofString "params") 881] }
noncomputable def hd.o_506 : Params → Obj := fun P => { cls := Value.type "tuple", data := Data.seq #[Value.str (Str.ofString "__class__") 836] }
noncomputable def hd.o_522 : Params → Obj := fun P => { cls := Value.type "tuple", data := Data.seq #[Value.str (Str.ofString "cls") 855, Value.str (Str.ofString "ical") 856] }
noncomputable def hd.o_528 : Params → Obj := fun P => { cls := Value.type "classmethod", dict := some 321, data := Data.fields #[Value.ref 320, Value.bool false] }
noncomputable def hd.o_496 : Params → Obj := fun P => { cls := Value.type "builtin_function_or_method", data := Data.fields #[Value.builtin "type.__prepare__", Value.type "type"] }
noncomputable def hd.o_544 : Params → Obj := fun P => { cls := Value.type "member_descriptor", data := Data.fields #[Value.str (Str.ofString "params") 887, Value.ref 335, Value.builtin "proto.slot", Value.builtin "proto.slot#set", Value.int 0 0] }
noncomputable def hd.o_512 : Params → Obj := fun P => { cls := Value.type "function", data := Data.func { name := Str.ofString "__new__", qualname := Str.ofString "vText.__new__", params := (fa [21, 2]), body := FuncBody.stmts (fb [21, 2]), scope := (fs [21, 2]), globals := 3, closure := [(Str.ofString "__class__", 292)], defaults := Value.ref 298, kwdefaults := Value.none, pyModule := Value.str (Str.ofString "icalendar.prop.text") 814, code := Value.ref 305, closureTuple := Value.ref 299 } }
noncomputable def hd.o_536 : Params → Obj := fun P => { cls := Value.type "function", data := Data.func { name := Str.ofString "ical_value", qualname := Str.ofString "vText.ical_value", params := (fa [21, 5]), body := FuncBody.stmts (fb [21, 5]), scope := (fs [12, 8]), globals := 3, closure := [], defaults := Value.none, kwdefaults := Value.none, pyModule := Value.str (Str.ofString "icalendar.prop.text") 814, code := Value.ref 329 } }
noncomputable def hd.o_504 : Params → Obj := fun P => { cls := Value.type "tuple", data := Data.seq #[Value.str (Str.ofString "utf-8") 292, Value.none] }
noncomputable def hd.o_520 : Params → Obj := fun P => { cls := Value.type "tuple", data := Data.seq #[] }
noncomputable def hd.o_532 : Params → Obj := fun P => { cls := Value.type "tuple", data := Data.seq #[Value.str (Str.ofString "self") 875] }
noncomputable def hd.o_500 : Params → Obj := fun P => { cls := Value.none, data := Data.fields #[Value.int 170 0, Value.int 4 0, Value.ref 305, Value.int 177 0, Value.int 4 0, Value.ref 312, Value.int 181 0, Value.int 4 0, Value.ref 319, Value.int 185 0, Value.int 4 0, Value.ref 329] }
noncomputable def hd.o_516 : Params → Obj := fun P => { cls := Value.type "tuple", data := Data.seq #[] }
noncomputable def hd.o_540 : Params → Obj := fun P => { cls := Value.type "dict", data := Data.dict #[{ hash := PyData.keyHash P (Str.ofString "__module__"), key := Value.str (Str.ofString "__module__") 823, val := Value.str (Str.ofString "icalendar.prop.text") 814 }, { hash := PyData.keyHash P (Str.ofString "__firstlineno__"), key := Value.str (Str.ofString "__firstlineno__") 827, val := Value.int 166 826 }, { hash := PyData.keyHash P (Str.ofString "default_value"), key := Value.str (Str.ofString "default_value") 829, val := Value.str (Str.ofString "TEXT") 828 }, { hash := PyData.keyHash P (Str.ofString "__slots__"), key := Value.str (Str.ofString "__slots__") 832, val := Value.ref 297 }, { hash := PyData.keyHash P (Str.ofString "__new__"), key := Value.str (Str.ofString "__new__") 844, val := Value.ref 336 }, { hash := PyData.keyHash P (Str.ofString "to_ical"), key := Value.str (Str.ofString "to_ical") 851, val := Value.ref 313 }, { hash := PyData.keyHash P (Str.ofString "from_ical"), key := Value.str (Str.ofString "from_ical") 871, val := Value.ref 322 }, { hash := PyData.keyHash P (Str.ofString "ical_value"), key := Value.str (Str.ofString "ical_value") 879, val := Value.ref 331 }, { hash := PyData.keyHash P (Str.ofString "__static_attributes__"), key := Value.str (Str.ofString "__static_attributes__") 882, val := Value.ref 332 }, { hash := PyData.keyHash P (Str.ofString "encoding"), key := Value.str (Str.ofString "encoding") 886, val := Value.ref 337 }, { hash := PyData.keyHash P (Str.ofString "params"), key := Value.str (Str.ofString "params") 888, val := Value.ref 338 }, { hash := PyData.keyHash P (Str.ofString "__doc__"), key := Value.str (Str.ofString "__doc__") 889, val := Value.none }] 5 }
noncomputable def hd.o_508 : Params → Obj := fun P => { cls := Value.type "tuple", data := Data.seq #[Value.str (Str.ofString "cls") 837, Value.str (Str.ofString "value") 838, Value.str (Str.ofString "encoding") 839, Value.str (Str.ofString "params") 840, Value.str (Str.ofString "self") 841] }
noncomputable def hd.o_524 : Params → Obj := fun P => { cls := Value.none, data := Data.func { name := Str.ofString "from_ical", qualname := Str.ofString "vText.from_ical", params := (fa [21, 4]), body := FuncBody.stmts (fb [21, 4]), scope := (fs [21, 4]), globals := 0, closure := [], defaults := Value.none, kwdefaults := Value.none } }
noncomputable def hd.o_547 : Params → Obj := fun P => { cls := Value.type "dict", data := Data.dict #[{ hash := PyData.keyHash P (Str.ofString "__name__"), key := Value.str (Str.ofString "__name__") 165, val := Value.str (Str.ofString "law_be0020_01") 894 }, { hash := PyData.keyHash P (Str.ofString "__doc__"), key := Value.str (Str.ofString "__doc__") 166, val := Value.none }, { hash := PyData.keyHash P (Str.ofString "__package__"), key := Value.str (Str.ofString "__package__") 167, val := Value.none }, { hash := PyData.keyHash P (Str.ofString "__loader__"), key := Value.str (Str.ofString "__loader__") 168, val := Value.builtin "__main__.__loader__#opaque" }, { hash := PyData.keyHash P (Str.ofString "__spec__"), key := Value.str (Str.ofString "__spec__") 169, val := Value.none }, { hash := PyData.keyHash P (Str.ofString "__annotations__"), key := Value.str (Str.ofString "__annotations__") 170, val := Value.ref 6 }, { hash := PyData.keyHash P (Str.ofString "__builtins__"), key := Value.str (Str.ofString "__builtins__") 171, val := Value.ref 4 }, { hash := PyData.keyHash P (Str.ofString "__file__"), key := Value.str (Str.ofString "__file__") 173, val := Value.str (Str.ofString "/claim/cut.py") 172 }, { hash := PyData.keyHash P (Str.ofString "__cached__"), key := Value.str (Str.ofString "__cached__") 174, val := Value.none }, { hash := PyData.keyHash P (Str.ofString "_sre"), key := Value.str (Str.ofString "_sre") 275, val := Value.ref 12 }, { hash := PyData.keyHash P (Str.ofString "_wall"), key := Value.str (Str.ofString "_wall") 288, val := Value.ref 38 }, { hash := PyData.keyHash P (Str.ofString "SEQUENCE_TYPES"), key := Value.str (Str.ofString "SEQUENCE_TYPES") 291, val := Value.ref 39 }, { hash := PyData.keyHash P (Str.ofString "DEFAULT_ENCODING"), key := Value.str (Str.ofString "DEFAULT_ENCODING") 293, val := Value.str (Str.ofString "utf-8") 292 }, { hash := PyData.keyHash P (Str.ofString "to_unicode"), key := Value.str (Str.ofString "to_unicode") 302, val := Value.ref 47 }, { hash := PyData.keyHash P (Str.ofString "_escape_char"), key := Value.str (Str.ofString "_escape_char") 311, val := Value.ref 54 }, { hash := PyData.keyHash P (Str.ofString "_unescape_char"), key := Value.str (Str.ofString "_unescape_char") 318, val := Value.ref 61 }, { hash := PyData.keyHash P (Str.ofString "unescape_backslash"), key := Value.str (Str.ofString "unescape_backslash") 329, val := Value.ref 68 }, { hash := PyData.keyHash P (Str.ofString "CaselessDict"), key := Value.str (Str.ofString "CaselessDict") 489, val := Value.ref 195 }, { hash := PyData.keyHash P (Str.ofString "param_value"), key := Value.str (Str.ofString "param_value") 497, val := Value.ref 205 }, { hash := PyData.keyHash P (Str.ofString "QUOTABLE"), key := Value.str (Str.ofString "QUOTABLE") 693, val := Value.ref 210 }, { hash := PyData.keyHash P (Str.ofString "dquote"), key := Value.str (Str.ofString "dquote") 701, val := Value.ref 218 }, { hash := PyData.keyHash P (Str.ofString "q_join"), key := Value.str (Str.ofString "q_join") 712, val := Value.ref 226 }, { hash := PyData.keyHash P (Str.ofString "Parameters"), key := Value.str (Str.ofString "Parameters") 803, val := Value.ref 279 }, { hash := PyData.keyHash P (Str.ofString "rfc_6868_escape"), key := Value.str (Str.ofString "rfc_6868_escape") 813, val := Value.ref 288 }, { hash := PyData.keyHash P (Str.ofString "vText"), key := Value.str (Str.ofString "vText") 893, val := Value.ref 335 }, { hash := PyData.keyHash P (Str.ofString "_law_bag"), key := Value.str (Str.ofString "_law_bag") 904, val := Value.ref 347 }, { hash := PyData.keyHash P (Str.ofString "_law_draw"), key := Value.str (Str.ofString "_law_draw") 913, val := Value.ref 354 }, { hash := PyData.keyHash P (Str.ofString "_law_text"), key := Value.str (Str.ofString "_law_text") 923, val := Value.ref 361 }, { hash := PyData.keyHash P (Str.ofString "_law_plain"), key := Value.str (Str.ofString "_law_plain") 933, val := Value.ref 368 }, { hash := PyData.keyHash P (Str.ofString "law"), key := Value.str (Str.ofString "law") 939, val := Value.ref 373 }] 30 }
noncomputable def hd.o_559 : Params → Obj := fun P => { cls := Value.type "tuple", data := Data.seq #[] }
noncomputable def hd.o_575 : Params → Obj := fun P => { cls := Value.type "code", data := Data.fields #[Value.str (Str.ofString "_law_plain") 924, Value.str (Str.ofString "_law_plain") 925, Value.str (Str.ofString "/claim/cut.py") 926, Value.int 203 0, Value.int 1 0, Value.int 0 0, Value.int 0 0, Value.int 3 0, Value.ref 362, Value.bool true, Value.int 276 0, Value.ref 363, Value.none, Value.ref 364, Value.ref 365, Value.ref 366, Value.int 931 0, Value.int 203 0, Value.str (Str.ofString "/claim/cut.py") 932] }
noncomputable def hd.o_567 : Params → Obj := fun P => { cls := Value.none, data := Data.func { name := Str.ofString "_law_text", qualname := Str.ofString "_law_text", params := (fa [25]), body := FuncBody.stmts (fb [25]), scope := (fs [25]), globals := 0, closure := [], defaults := Value.none, kwdefaults := Value.none } }
noncomputable def hd.o_551 : Params → Obj := fun P => { cls := Value.type "tuple", data := Data.seq #[Value.str (Str.ofString "script") 899, Value.str (Str.ofString "n") 900, Value.str (Str.ofString "s") 901] }
noncomputable def hd.o_563 : Params → Obj := fun P => { cls := Value.type "tuple", data := Data.seq #[] }
noncomputable def hd.o_579 : Params → Obj := fun P => { cls := Value.none, data := Data.func { name := Str.ofString "law", qualname := Str.ofString "law", params := (fa [27]), body := FuncBody.stmts (fb [27]), scope := (fs [27]), globals := 0, closure := [], defaults := Value.none, kwdefaults := Value.none } }
noncomputable def hd.o_571 : Params → Obj := fun P => { cls := Value.none, data := Data.fields #[] }
noncomputable def hd.o_555 : Params → Obj := fun P => { cls := Value.type "function", data := Data.func { name := Str.ofString "_law_bag", qualname := Str.ofString "_law_bag", params := (fa [23]), body := FuncBody.stmts (fb [23]), scope := (fs [23]), globals := 3, closure := [], defaults := Value.none, kwdefaults := Value.none, pyModule := Value.str (Str.ofString "law_be0020_01") 894, code := Value.ref 346 } }
noncomputable def hd.o_561 : Params → Obj := fun P => { cls := Value.type "code", data := Data.fields #[Value.str (Str.ofString "_law_draw") 905, Value.str (Str.ofString "_law_draw") 906, Value.str (Str.ofString "/claim/cut.py") 907, Value.int 193 0, Value.int 2 0, Value.int 0 0, Value.int 0 0, Value.int 3 0, Value.ref 348, Value.bool true, Value.int 276 0, Value.ref 349, Value.none, Value.ref 350, Value.ref 351, Value.ref 352, Value.int 911 0, Value.int 193 0, Value.str (Str.ofString "/claim/cut.py") 912] }
noncomputable def hd.o_577 : Params → Obj := fun P => { cls := Value.type "tuple", data := Data.seq #[] }
noncomputable def hd.o_569 : Params → Obj := fun P => { cls := Value.type "function", data := Data.func { name := Str.ofString "_law_text", qualname := Str.ofString "_law_text", params := (fa [25]), body := FuncBody.stmts (fb [25]), scope := (fs [25]), globals := 3, closure := [], defaults := Value.none, kwdefaults := Value.none, pyModule := Value.str (Str.ofString "law_be0020_01") 894, code := Value.ref 360 } }
noncomputable def hd.o_553 : Params → Obj := fun P => { cls := Value.none, data := Data.func { name := Str.ofString "_law_bag", qualname := Str.ofString "_law_bag", params := (fa [23]), body := FuncBody.stmts (fb [23]), scope := (fs [23]), globals := 0, closure := [], defaults := Value.none, kwdefaults := Value.none } }
noncomputable def hd.o_565 : Params → Obj := fun P => { cls := Value.type "tuple", data := Data.seq #[Value.str (Str.ofString "bag") 917, Value.str (Str.ofString "pieces") 918, Value.str (Str.ofString "told") 919, Value.str (Str.ofString "k") 920] }
noncomputable def hd.o_549 : Params → Obj := fun P => { cls := Value.type "tuple", data := Data.seq #[] }
noncomputable def hd.o_581 : Params → Obj := fun P => { cls := Value.type "function", data := Data.func { name := Str.ofString "law", qualname := Str.ofString "law", params := (fa [27]), body := FuncBody.stmts (fb [27]), scope := (fs [27]), globals := 3, closure := [], defaults := Value.none, kwdefaults := Value.none, pyModule := Value.str (Str.ofString "law_be0020_01") 894, code := Value.ref 372 } }
noncomputable def hd.o_548 : Params → Obj := fun P => { cls := Value.none, data := Data.fields #[Value.int 2 0, Value.int 0 0, Value.ref 37, Value.int 8 0, Value.int 0 0, Value.ref 46, Value.int 16 0, Value.int 0 0, Value.ref 53, Value.int 20 0, Value.int 0 0, Value.ref 60, Value.int 28 0, Value.int 0 0, Value.ref 67, Value.int 40 0, Value.int 0 0, Value.ref 75, Value.int 103 0, Value.int 0 0, Value.ref 204, Value.int 110 0, Value.int 0 0, Value.ref 217, Value.int 115 0, Value.int 0 0, Value.ref 225, Value.int 117 0, Value.int 0 0, Value.ref 233, Value.int 159 0, Value.int 0 0, Value.ref 287, Value.int 166 0, Value.int 0 0, Value.ref 295, Value.int 188 0, Value.int 0 0, Value.ref 346, Value.int 193 0, Value.int 0 0, Value.ref 353, Value.int 197 0, Value.int 0 0, Value.ref 360, Value.int 203 0, Value.int 0 0, Value.ref 367, Value.int 222 0, Value.int 0 0, Value.ref 372] }
noncomputable def hd.o_573 : Params → Obj := fun P => { cls := Value.type "tuple", data := Data.seq #[] }
noncomputable def hd.o_557 : Params → Obj := fun P => { cls := Value.none, data := Data.fields #[] }
noncomputable def hd.o_560 : Params → Obj := fun P => { cls := Value.none, data := Data.func { name := Str.ofString "_law_draw", qualname := Str.ofString "_law_draw", params := (fa [24]), body := FuncBody.stmts (fb [24]), scope := (fs [24]), globals := 0, closure := [], defaults := Value.none, kwdefaults := Value.none } }
noncomputable def hd.o_576 : Params → Obj := fun P => { cls := Value.type "function", data := Data.func { name := Str.ofString "_law_plain", qualname := Str.ofString "_law_plain", params := (fa [26]), body := FuncBody.stmts (fb [26]), scope := (fs [26]), globals := 3, closure := [], defaults := Value.none, kwdefaults := Value.none, pyModule := Value.str (Str.ofString "law_be0020_01") 894, code := Value.ref 367 } }
noncomputable def hd.o_568 : Params → Obj := fun P => { cls := Value.type "code", data := Data.fields #[Value.str (Str.ofString "_law_text") 914, Value.str (Str.ofString "_law_text") 915, Value.str (Str.ofString "/claim/cut.py") 916, Value.int 197 0, Value.int 1 0, Value.int 0 0, Value.int 0 0, Value.int 3 0, Value.ref 355, Value.bool true, Value.int 276 0, Value.ref 356, Value.none, Value.ref 357, Value.ref 358, Value.ref 359, Value.int 921 0, Value.int 197 0, Value.str (Str.ofString "/claim/cut.py") 922] }
noncomputable def hd.o_552 : Params → Obj := fun P => { cls := Value.type "tuple", data := Data.seq #[] }
noncomputable def hd.o_564 : Params → Obj := fun P => { cls := Value.none, data := Data.fields #[] }
noncomputable def hd.o_580 : Params → Obj := fun P => { cls := Value.type "code", data := Data.fields #[Value.str (Str.ofString "law") 934, Value.str (Str.ofString "law") 935, Value.str (Str.ofString "/claim/cut.py") 936, Value.int 222 0, Value.int 1 0, Value.int 0 0, Value.int 0 0, Value.int 3 0, Value.ref 369, Value.bool true, Value.int 276 0, Value.ref 370, Value.none, Value.none, Value.none, Value.ref 371, Value.int 937 0, Value.int 222 0, Value.str (Str.ofString "/claim/cut.py") 938] }
noncomputable def hd.o_572 : Params → Obj := fun P => { cls := Value.type "tuple", data := Data.seq #[Value.str (Str.ofString "told") 927, Value.str (Str.ofString "found") 928, Value.str (Str.ofString "k") 929, Value.str (Str.ofString "rows") 930] }
noncomputable def hd.o_556 : Params → Obj := fun P => { cls := Value.type "tuple", data := Data.seq #[] }
noncomputable def hd.o_562 : Params → Obj := fun P => { cls := Value.type "function", data := Data.func { name := Str.ofString "_law_draw", qualname := Str.ofString "_law_draw", params := (fa [24]), body := FuncBody.stmts (fb [24]), scope := (fs [24]), globals := 3, closure := [], defaults := Value.none, kwdefaults := Value.none, pyModule := Value.str (Str.ofString "law_be0020_01") 894, code := Value.ref 353 } }
noncomputable def hd.o_578 : Params → Obj := fun P => { cls := Value.none, data := Data.fields #[] }
noncomputable def hd.o_570 : Params → Obj := fun P => { cls := Value.type "tuple", data := Data.seq #[] }
noncomputable def hd.o_554 : Params → Obj := fun P => { cls := Value.type "code", data := Data.fields #[Value.str (Str.ofString "_law_bag") 896, Value.str (Str.ofString "_law_bag") 897, Value.str (Str.ofString "/claim/cut.py") 898, Value.int 188 0, Value.int 1 0, Value.int 0 0, Value.int 0 0, Value.int 3 0, Value.ref 341, Value.bool true, Value.int 276 0, Value.ref 342, Value.none, Value.ref 343, Value.ref 344, Value.ref 345, Value.int 902 0, Value.int 188 0, Value.str (Str.ofString "/claim/cut.py") 903] }
noncomputable def hd.o_566 : Params → Obj := fun P => { cls := Value.type "tuple", data := Data.seq #[] }
noncomputable def hd.o_550 : Params → Obj := fun P => { cls := Value.none, data := Data.fields #[] }
noncomputable def hd.o_574 : Params → Obj := fun P => { cls := Value.none, data := Data.func { name := Str.ofString "_law_plain", qualname := Str.ofString "_law_plain", params := (fa [26]), body := FuncBody.stmts (fb [26]), scope := (fs [26]), globals := 0, closure := [], defaults := Value.none, kwdefaults := Value.none } }
noncomputable def hd.o_558 : Params → Obj := fun P => { cls := Value.type "tuple", data := Data.seq #[Value.str (Str.ofString "bag") 908, Value.str (Str.ofString "n") 909, Value.str (Str.ofString "told") 910] }
noncomputable def hd.heap_68 : Params → Heap := fun P => { objs := { toList := [hd.o_41 P, hd.o_42 P, hd.o_43 P, hd.o_44 P, hd.o_45 P, hd.o_46 P, hd.o_47 P, hd.o_48 P, hd.o_49 P, hd.o_50 P, hd.o_51 P, hd.o_52 P, hd.o_53 P, hd.o_54 P, hd.o_55 P, hd.o_56 P, hd.o_57 P, hd.o_58 P, hd.o_59 P, hd.o_60 P, hd.o_61 P, hd.o_62 P, hd.o_63 P, hd.o_64 P, hd.o_65 P, hd.o_66 P, hd.o_67 P, hd.o_68 P] } }
noncomputable def hd.heap_72 : Params → Heap := fun P => { objs := { toList := [hd.o_41 P, hd.o_42 P, hd.o_43 P, hd.o_44 P, hd.o_45 P, hd.o_46 P, hd.o_47 P, hd.o_48 P, hd.o_49 P, hd.o_50 P, hd.o_51 P, hd.o_52 P, hd.o_53 P, hd.o_54 P, hd.o_55 P, hd.o_56 P, hd.o_57 P, hd.o_58 P, hd.o_59 P, hd.o_60 P, hd.o_61 P, hd.o_62 P, hd.o_63 P, hd.o_64 P, hd.o_65 P, hd.o_66 P, hd.o_67 P, hd.o_68 P, hd.o_69 P, hd.o_70 P, hd.o_71 P, hd.o_72 P] } }
noncomputable def hd.tree_73 : Params → BT := fun P => BT.node (hd.o_41 P) (BT.node (hd.o_42 P) (BT.node (hd.o_44 P) (BT.node (hd.o_48 P) (BT.node (hd.o_56 P) (BT.node (hd.o_72 P) BT.nil BT.nil) BT.nil) (BT.node (hd.o_64 P) BT.nil BT.nil)) (BT.node (hd.o_52 P) (BT.node (hd.o_60 P) BT.nil BT.nil) (BT.node (hd.o_68 P) BT.nil BT.nil))) (BT.node (hd.o_46 P) (BT.node (hd.o_50 P) (BT.node (hd.o_58 P) BT.nil BT.nil) (BT.node (hd.o_66 P) BT.nil BT.nil)) (BT.node (hd.o_54 P) (BT.node (hd.o_62 P) BT.nil BT.nil) (BT.node (hd.o_70 P) BT.nil BT.nil)))) (BT.node (hd.o_43 P) (BT.node (hd.o_45 P) (BT.node (hd.o_49 P) (BT.node (hd.o_57 P) BT.nil BT.nil) (BT.node (hd.o_65 P) BT.nil BT.nil)) (BT.node (hd.o_53 P) (BT.node (hd.o_61 P) BT.nil BT.nil) (BT.node (hd.o_69 P) BT.nil BT.nil))) (BT.node (hd.o_47 P) (BT.node (hd.o_51 P) (BT.node (hd.o_59 P) BT.nil BT.nil) (BT.node (hd.o_67 P) BT.nil BT.nil)) (BT.node (hd.o_55 P) (BT.node (hd.o_63 P) BT.nil BT.nil) (BT.node (hd.o_71 P) BT.nil BT.nil))))
noncomputable def hd.tree_113 : Params → BT := fun P => BT.node (hd.o_41 P) (BT.node (hd.o_42 P) (BT.node (hd.o_75 P) (BT.node (hd.o_48 P) (BT.node (hd.o_56 P) (BT.node (hd.o_72 P) (BT.node (hd.o_108 P) BT.nil BT.nil) BT.nil) (BT.node (hd.o_92 P) BT.nil BT.nil)) (BT.node (hd.o_64 P) (BT.node (hd.o_84 P) BT.nil BT.nil) (BT.node (hd.o_100 P) BT.nil BT.nil))) (BT.node (hd.o_52 P) (BT.node (hd.o_60 P) (BT.node (hd.o_80 P) (BT.node (hd.o_112 P) BT.nil BT.nil) BT.nil) (BT.node (hd.o_96 P) BT.nil BT.nil)) (BT.node (hd.o_68 P) (BT.node (hd.o_88 P) BT.nil BT.nil) (BT.node (hd.o_104 P) BT.nil BT.nil)))) (BT.node (hd.o_46 P) (BT.node (hd.o_50 P) (BT.node (hd.o_58 P) (BT.node (hd.o_78 P) (BT.node (hd.o_110 P) BT.nil BT.nil) BT.nil) (BT.node (hd.o_94 P) BT.nil BT.nil)) (BT.node (hd.o_66 P) (BT.node (hd.o_86 P) BT.nil BT.nil) (BT.node (hd.o_102 P) BT.nil BT.nil))) (BT.node (hd.o_54 P) (BT.node (hd.o_62 P) (BT.node (hd.o_82 P) BT.nil BT.nil) (BT.node (hd.o_98 P) BT.nil BT.nil)) (BT.node (hd.o_76 P) (BT.node (hd.o_90 P) BT.nil BT.nil) (BT.node (hd.o_106 P) BT.nil BT.nil))))) (BT.node (hd.o_43 P) (BT.node (hd.o_45 P) (BT.node (hd.o_49 P) (BT.node (hd.o_57 P) (BT.node (hd.o_77 P) (BT.node (hd.o_109 P) BT.nil BT.nil) BT.nil) (BT.node (hd.o_93 P) BT.nil BT.nil)) (BT.node (hd.o_65 P) (BT.node (hd.o_85 P) BT.nil BT.nil) (BT.node (hd.o_101 P) BT.nil BT.nil))) (BT.node (hd.o_53 P) (BT.node (hd.o_61 P) (BT.node (hd.o_81 P) (BT.node (hd.o_113 P) BT.nil BT.nil) BT.nil) (BT.node (hd.o_97 P) BT.nil BT.nil)) (BT.node (hd.o_69 P) (BT.node (hd.o_89 P) BT.nil BT.nil) (BT.node (hd.o_105 P) BT.nil BT.nil)))) (BT.node (hd.o_47 P) (BT.node (hd.o_51 P) (BT.node (hd.o_59 P) (BT.node (hd.o_79 P) (BT.node (hd.o_111 P) BT.nil BT.nil) BT.nil) (BT.node (hd.o_95 P) BT.nil BT.nil)) (BT.node (hd.o_67 P) (BT.node (hd.o_87 P) BT.nil BT.nil) (BT.node (hd.o_103 P) BT.nil BT.nil))) (BT.node (hd.o_55 P) (BT.node (hd.o_63 P) (BT.node (hd.o_83 P) BT.nil BT.nil) (BT.node (hd.o_99 P) BT.nil BT.nil)) (BT.node (hd.o_71 P) (BT.node (hd.o_91 P) BT.nil BT.nil) (BT.node (hd.o_107 P) BT.nil BT.nil)))))
noncomputable def hd.tree_246 : Params → BT := fun P => BT.node (hd.o_41 P) (BT.node (hd.o_42 P) (BT.node (hd.o_114 P) (BT.node (hd.o_48 P) (BT.node (hd.o_56 P) (BT.node (hd.o_72 P) (BT.node (hd.o_108 P) (BT.node (hd.o_174 P) BT.nil BT.nil) (BT.node (hd.o_238 P) BT.nil BT.nil)) (BT.node (hd.o_142 P) (BT.node (hd.o_206 P) BT.nil BT.nil) BT.nil)) (BT.node (hd.o_92 P) (BT.node (hd.o_126 P) (BT.node (hd.o_190 P) BT.nil BT.nil) BT.nil) (BT.node (hd.o_158 P) (BT.node (hd.o_222 P) BT.nil BT.nil) BT.nil))) (BT.node (hd.o_64 P) (BT.node (hd.o_84 P) (BT.node (hd.o_118 P) (BT.node (hd.o_182 P) BT.nil BT.nil) (BT.node (hd.o_246 P) BT.nil BT.nil)) (BT.node (hd.o_150 P) (BT.node (hd.o_214 P) BT.nil BT.nil) BT.nil)) (BT.node (hd.o_100 P) (BT.node (hd.o_134 P) (BT.node (hd.o_198 P) BT.nil BT.nil) BT.nil) (BT.node (hd.o_166 P) (BT.node (hd.o_230 P) BT.nil BT.nil) BT.nil)))) (BT.node (hd.o_52 P) (BT.node (hd.o_60 P) (BT.node (hd.o_80 P) (BT.node (hd.o_112 P) (BT.node (hd.o_178 P) BT.nil BT.nil) (BT.node (hd.o_242 P) BT.nil BT.nil)) (BT.node (hd.o_146 P) (BT.node (hd.o_210 P) BT.nil BT.nil) BT.nil)) (BT.node (hd.o_96 P) (BT.node (hd.o_130 P) (BT.node (hd.o_194 P) BT.nil BT.nil) BT.nil) (BT.node (hd.o_162 P) (BT.node (hd.o_226 P) BT.nil BT.nil) BT.nil))) (BT.node (hd.o_68 P) (BT.node (hd.o_88 P) (BT.node (hd.o_122 P) (BT.node (hd.o_186 P) BT.nil BT.nil) BT.nil) (BT.node (hd.o_154 P) (BT.node (hd.o_218 P) BT.nil BT.nil) BT.nil)) (BT.node (hd.o_104 P) (BT.node (hd.o_138 P) (BT.node (hd.o_202 P) BT.nil BT.nil) BT.nil) (BT.node (hd.o_170 P) (BT.node (hd.o_234 P) BT.nil BT.nil) BT.nil))))) (BT.node (hd.o_46 P) (BT.node (hd.o_50 P) (BT.node (hd.o_58 P) (BT.node (hd.o_78 P) (BT.node (hd.o_110 P) (BT.node (hd.o_176 P) BT.nil BT.nil) (BT.node (hd.o_240 P) BT.nil BT.nil)) (BT.node (hd.o_144 P) (BT.node (hd.o_208 P) BT.nil BT.nil) BT.nil)) (BT.node (hd.o_94 P) (BT.node (hd.o_128 P) (BT.node (hd.o_192 P) BT.nil BT.nil) BT.nil) (BT.node (hd.o_160 P) (BT.node (hd.o_224 P) BT.nil BT.nil) BT.nil))) (BT.node (hd.o_66 P) (BT.node (hd.o_86 P) (BT.node (hd.o_120 P) (BT.node (hd.o_184 P) BT.nil BT.nil) BT.nil) (BT.node (hd.o_152 P) (BT.node (hd.o_216 P) BT.nil BT.nil) BT.nil)) (BT.node (hd.o_102 P) (BT.node (hd.o_136 P) (BT.node (hd.o_200 P) BT.nil BT.nil) BT.nil) (BT.node (hd.o_168 P) (BT.node (hd.o_232 P) BT.nil BT.nil) BT.nil)))) (BT.node (hd.o_54 P) (BT.node (hd.o_62 P) (BT.node (hd.o_82 P) (BT.node (hd.o_116 P) (BT.node (hd.o_180 P) BT.nil BT.nil) (BT.node (hd.o_244 P) BT.nil BT.nil)) (BT.node (hd.o_148 P) (BT.node (hd.o_212 P) BT.nil BT.nil) BT.nil)) (BT.node (hd.o_98 P) (BT.node (hd.o_132 P) (BT.node (hd.o_196 P) BT.nil BT.nil) BT.nil) (BT.node (hd.o_164 P) (BT.node (hd.o_228 P) BT.nil BT.nil) BT.nil))) (BT.node (hd.o_115 P) (BT.node (hd.o_90 P) (BT.node (hd.o_124 P) (BT.node (hd.o_188 P) BT.nil BT.nil) BT.nil) (BT.node (hd.o_156 P) (BT.node (hd.o_220 P) BT.nil BT.nil) BT.nil)) (BT.node (hd.o_106 P) (BT.node (hd.o_140 P) (BT.node (hd.o_204 P) BT.nil BT.nil) BT.nil) (BT.node (hd.o_172 P) (BT.node (hd.o_236 P) BT.nil BT.nil) BT.nil)))))) (BT.node (hd.o_43 P) (BT.node (hd.o_45 P) (BT.node (hd.o_49 P) (BT.node (hd.o_57 P) (BT.node (hd.o_77 P) (BT.node (hd.o_109 P) (BT.node (hd.o_175 P) BT.nil BT.nil) (BT.node (hd.o_239 P) BT.nil BT.nil)) (BT.node (hd.o_143 P) (BT.node (hd.o_207 P) BT.nil BT.nil) BT.nil)) (BT.node (hd.o_93 P) (BT.node (hd.o_127 P) (BT.node (hd.o_191 P) BT.nil BT.nil) BT.nil) (BT.node (hd.o_159 P) (BT.node (hd.o_223 P) BT.nil BT.nil) BT.nil))) (BT.node (hd.o_65 P) (BT.node (hd.o_85 P) (BT.node (hd.o_119 P) (BT.node (hd.o_183 P) BT.nil BT.nil) BT.nil) (BT.node (hd.o_151 P) (BT.node (hd.o_215 P) BT.nil BT.nil) BT.nil)) (BT.node (hd.o_101 P) (BT.node (hd.o_135 P) (BT.node (hd.o_199 P) BT.nil BT.nil) BT.nil) (BT.node (hd.o_167 P) (BT.node (hd.o_231 P) BT.nil BT.nil) BT.nil)))) (BT.node (hd.o_53 P) (BT.node (hd.o_61 P) (BT.node (hd.o_81 P) (BT.node (hd.o_113 P) (BT.node (hd.o_179 P) BT.nil BT.nil) (BT.node (hd.o_243 P) BT.nil BT.nil)) (BT.node (hd.o_147 P) (BT.node (hd.o_211 P) BT.nil BT.nil) BT.nil)) (BT.node (hd.o_97 P) (BT.node (hd.o_131 P) (BT.node (hd.o_195 P) BT.nil BT.nil) BT.nil) (BT.node (hd.o_163 P) (BT.node (hd.o_227 P) BT.nil BT.nil) BT.nil))) (BT.node (hd.o_69 P) (BT.node (hd.o_89 P) (BT.node (hd.o_123 P) (BT.node (hd.o_187 P) BT.nil BT.nil) BT.nil) (BT.node (hd.o_155 P) (BT.node (hd.o_219 P) BT.nil BT.nil) BT.nil)) (BT.node (hd.o_105 P) (BT.node (hd.o_139 P) (BT.node (hd.o_203 P) BT.nil BT.nil) BT.nil) (BT.node (hd.o_171 P) (BT.node (hd.o_235 P) BT.nil BT.nil) BT.nil))))) (BT.node (hd.o_47 P) (BT.node (hd.o_51 P) (BT.node (hd.o_59 P) (BT.node (hd.o_79 P) (BT.node (hd.o_111 P) (BT.node (hd.o_177 P) BT.nil BT.nil) (BT.node (hd.o_241 P) BT.nil BT.nil)) (BT.node (hd.o_145 P) (BT.node (hd.o_209 P) BT.nil BT.nil) BT.nil)) (BT.node (hd.o_95 P) (BT.node (hd.o_129 P) (BT.node (hd.o_193 P) BT.nil BT.nil) BT.nil) (BT.node (hd.o_161 P) (BT.node (hd.o_225 P) BT.nil BT.nil) BT.nil))) (BT.node (hd.o_67 P) (BT.node (hd.o_87 P) (BT.node (hd.o_121 P) (BT.node (hd.o_185 P) BT.nil BT.nil) BT.nil) (BT.node (hd.o_153 P) (BT.node (hd.o_217 P) BT.nil BT.nil) BT.nil)) (BT.node (hd.o_103 P) (BT.node (hd.o_137 P) (BT.node (hd.o_201 P) BT.nil BT.nil) BT.nil) (BT.node (hd.o_169 P) (BT.node (hd.o_233 P) BT.nil BT.nil) BT.nil)))) (BT.node (hd.o_55 P) (BT.node (hd.o_63 P) (BT.node (hd.o_83 P) (BT.node (hd.o_117 P) (BT.node (hd.o_181 P) BT.nil BT.nil) (BT.node (hd.o_245 P) BT.nil BT.nil)) (BT.node (hd.o_149 P) (BT.node (hd.o_213 P) BT.nil BT.nil) BT.nil)) (BT.node (hd.o_99 P) (BT.node (hd.o_133 P) (BT.node (hd.o_197 P) BT.nil BT.nil) BT.nil) (BT.node (hd.o_165 P) (BT.node (hd.o_229 P) BT.nil BT.nil) BT.nil))) (BT.node (hd.o_71 P) (BT.node (hd.o_91 P) (BT.node (hd.o_125 P) (BT.node (hd.o_189 P) BT.nil BT.nil) BT.nil) (BT.node (hd.o_157 P) (BT.node (hd.o_221 P) BT.nil BT.nil) BT.nil)) (BT.node (hd.o_107 P) (BT.node (hd.o_141 P) (BT.node (hd.o_205 P) BT.nil BT.nil) BT.nil) (BT.node (hd.o_173 P) (BT.node (hd.o_237 P) BT.nil BT.nil) BT.nil))))))
noncomputable def hd.tree_368 : Params → BT := fun P => BT.node (hd.o_41 P) (BT.node (hd.o_42 P) (BT.node (hd.o_340 P) (BT.node (hd.o_48 P) (BT.node (hd.o_56 P) (BT.node (hd.o_72 P) (BT.node (hd.o_108 P) (BT.node (hd.o_174 P) BT.nil BT.nil) (BT.node (hd.o_238 P) BT.nil BT.nil)) (BT.node (hd.o_142 P) (BT.node (hd.o_206 P) BT.nil BT.nil) (BT.node (hd.o_365 P) BT.nil BT.nil))) (BT.node (hd.o_92 P) (BT.node (hd.o_126 P) (BT.node (hd.o_190 P) BT.nil BT.nil) (BT.node (hd.o_349 P) BT.nil BT.nil)) (BT.node (hd.o_158 P) (BT.node (hd.o_222 P) BT.nil BT.nil) BT.nil))) (BT.node (hd.o_64 P) (BT.node (hd.o_84 P) (BT.node (hd.o_118 P) (BT.node (hd.o_182 P) BT.nil BT.nil) (BT.node (hd.o_246 P) BT.nil BT.nil)) (BT.node (hd.o_150 P) (BT.node (hd.o_214 P) BT.nil BT.nil) BT.nil)) (BT.node (hd.o_100 P) (BT.node (hd.o_134 P) (BT.node (hd.o_198 P) BT.nil BT.nil) (BT.node (hd.o_357 P) BT.nil BT.nil)) (BT.node (hd.o_166 P) (BT.node (hd.o_230 P) BT.nil BT.nil) BT.nil)))) (BT.node (hd.o_52 P) (BT.node (hd.o_60 P) (BT.node (hd.o_80 P) (BT.node (hd.o_112 P) (BT.node (hd.o_178 P) BT.nil BT.nil) (BT.node (hd.o_242 P) BT.nil BT.nil)) (BT.node (hd.o_146 P) (BT.node (hd.o_210 P) BT.nil BT.nil) BT.nil)) (BT.node (hd.o_96 P) (BT.node (hd.o_130 P) (BT.node (hd.o_194 P) BT.nil BT.nil) (BT.node (hd.o_353 P) BT.nil BT.nil)) (BT.node (hd.o_162 P) (BT.node (hd.o_226 P) BT.nil BT.nil) BT.nil))) (BT.node (hd.o_68 P) (BT.node (hd.o_88 P) (BT.node (hd.o_122 P) (BT.node (hd.o_186 P) BT.nil BT.nil) (BT.node (hd.o_345 P) BT.nil BT.nil)) (BT.node (hd.o_154 P) (BT.node (hd.o_218 P) BT.nil BT.nil) BT.nil)) (BT.node (hd.o_104 P) (BT.node (hd.o_138 P) (BT.node (hd.o_202 P) BT.nil BT.nil) (BT.node (hd.o_361 P) BT.nil BT.nil)) (BT.node (hd.o_170 P) (BT.node (hd.o_234 P) BT.nil BT.nil) BT.nil))))) (BT.node (hd.o_46 P) (BT.node (hd.o_50 P) (BT.node (hd.o_58 P) (BT.node (hd.o_78 P) (BT.node (hd.o_110 P) (BT.node (hd.o_176 P) BT.nil BT.nil) (BT.node (hd.o_240 P) BT.nil BT.nil)) (BT.node (hd.o_144 P) (BT.node (hd.o_208 P) BT.nil BT.nil) (BT.node (hd.o_367 P) BT.nil BT.nil))) (BT.node (hd.o_94 P) (BT.node (hd.o_128 P) (BT.node (hd.o_192 P) BT.nil BT.nil) (BT.node (hd.o_351 P) BT.nil BT.nil)) (BT.node (hd.o_160 P) (BT.node (hd.o_224 P) BT.nil BT.nil) BT.nil))) (BT.node (hd.o_66 P) (BT.node (hd.o_86 P) (BT.node (hd.o_120 P) (BT.node (hd.o_184 P) BT.nil BT.nil) (BT.node (hd.o_343 P) BT.nil BT.nil)) (BT.node (hd.o_152 P) (BT.node (hd.o_216 P) BT.nil BT.nil) BT.nil)) (BT.node (hd.o_102 P) (BT.node (hd.o_136 P) (BT.node (hd.o_200 P) BT.nil BT.nil) (BT.node (hd.o_359 P) BT.nil BT.nil)) (BT.node (hd.o_168 P) (BT.node (hd.o_232 P) BT.nil BT.nil) BT.nil)))) (BT.node (hd.o_54 P) (BT.node (hd.o_62 P) (BT.node (hd.o_82 P) (BT.node (hd.o_116 P) (BT.node (hd.o_180 P) BT.nil BT.nil) (BT.node (hd.o_244 P) BT.nil BT.nil)) (BT.node (hd.o_148 P) (BT.node (hd.o_212 P) BT.nil BT.nil) BT.nil)) (BT.node (hd.o_98 P) (BT.node (hd.o_132 P) (BT.node (hd.o_196 P) BT.nil BT.nil) (BT.node (hd.o_355 P) BT.nil BT.nil)) (BT.node (hd.o_164 P) (BT.node (hd.o_228 P) BT.nil BT.nil) BT.nil))) (BT.node (hd.o_341 P) (BT.node (hd.o_90 P) (BT.node (hd.o_124 P) (BT.node (hd.o_188 P) BT.nil BT.nil) (BT.node (hd.o_347 P) BT.nil BT.nil)) (BT.node (hd.o_156 P) (BT.node (hd.o_220 P) BT.nil BT.nil) BT.nil)) (BT.node (hd.o_106 P) (BT.node (hd.o_140 P) (BT.node (hd.o_204 P) BT.nil BT.nil) (BT.node (hd.o_363 P) BT.nil BT.nil)) (BT.node (hd.o_172 P) (BT.node (hd.o_236 P) BT.nil BT.nil) BT.nil)))))) (BT.node (hd.o_43 P) (BT.node (hd.o_45 P) (BT.node (hd.o_49 P) (BT.node (hd.o_57 P) (BT.node (hd.o_77 P) (BT.node (hd.o_109 P) (BT.node (hd.o_175 P) BT.nil BT.nil) (BT.node (hd.o_239 P) BT.nil BT.nil)) (BT.node (hd.o_143 P) (BT.node (hd.o_207 P) BT.nil BT.nil) (BT.node (hd.o_366 P) BT.nil BT.nil))) (BT.node (hd.o_93 P) (BT.node (hd.o_127 P) (BT.node (hd.o_191 P) BT.nil BT.nil) (BT.node (hd.o_350 P) BT.nil BT.nil)) (BT.node (hd.o_159 P) (BT.node (hd.o_223 P) BT.nil BT.nil) BT.nil))) (BT.node (hd.o_65 P) (BT.node (hd.o_85 P) (BT.node (hd.o_119 P) (BT.node (hd.o_183 P) BT.nil BT.nil) (BT.node (hd.o_342 P) BT.nil BT.nil)) (BT.node (hd.o_151 P) (BT.node (hd.o_215 P) BT.nil BT.nil) BT.nil)) (BT.node (hd.o_101 P) (BT.node (hd.o_135 P) (BT.node (hd.o_199 P) BT.nil BT.nil) (BT.node (hd.o_358 P) BT.nil BT.nil)) (BT.node (hd.o_167 P) (BT.node (hd.o_231 P) BT.nil BT.nil) BT.nil)))) (BT.node (hd.o_53 P) (BT.node (hd.o_61 P) (BT.node (hd.o_81 P) (BT.node (hd.o_113 P) (BT.node (hd.o_179 P) BT.nil BT.nil) (BT.node (hd.o_243 P) BT.nil BT.nil)) (BT.node (hd.o_147 P) (BT.node (hd.o_211 P) BT.nil BT.nil) BT.nil)) (BT.node (hd.o_97 P) (BT.node (hd.o_131 P) (BT.node (hd.o_195 P) BT.nil BT.nil) (BT.node (hd.o_354 P) BT.nil BT.nil)) (BT.node (hd.o_163 P) (BT.node (hd.o_227 P) BT.nil BT.nil) BT.nil))) (BT.node (hd.o_69 P) (BT.node (hd.o_89 P) (BT.node (hd.o_123 P) (BT.node (hd.o_187 P) BT.nil BT.nil) (BT.node (hd.o_346 P) BT.nil BT.nil)) (BT.node (hd.o_155 P) (BT.node (hd.o_219 P) BT.nil BT.nil) BT.nil)) (BT.node (hd.o_105 P) (BT.node (hd.o_139 P) (BT.node (hd.o_203 P) BT.nil BT.nil) (BT.node (hd.o_362 P) BT.nil BT.nil)) (BT.node (hd.o_171 P) (BT.node (hd.o_235 P) BT.nil BT.nil) BT.nil))))) (BT.node (hd.o_47 P) (BT.node (hd.o_51 P) (BT.node (hd.o_59 P) (BT.node (hd.o_79 P) (BT.node (hd.o_111 P) (BT.node (hd.o_177 P) BT.nil BT.nil) (BT.node (hd.o_241 P) BT.nil BT.nil)) (BT.node (hd.o_145 P) (BT.node (hd.o_209 P) BT.nil BT.nil) (BT.node (hd.o_368 P) BT.nil BT.nil))) (BT.node (hd.o_95 P) (BT.node (hd.o_129 P) (BT.node (hd.o_193 P) BT.nil BT.nil) (BT.node (hd.o_352 P) BT.nil BT.nil)) (BT.node (hd.o_161 P) (BT.node (hd.o_225 P) BT.nil BT.nil) BT.nil))) (BT.node (hd.o_67 P) (BT.node (hd.o_87 P) (BT.node (hd.o_121 P) (BT.node (hd.o_185 P) BT.nil BT.nil) (BT.node (hd.o_344 P) BT.nil BT.nil)) (BT.node (hd.o_153 P) (BT.node (hd.o_217 P) BT.nil BT.nil) BT.nil)) (BT.node (hd.o_103 P) (BT.node (hd.o_137 P) (BT.node (hd.o_201 P) BT.nil BT.nil) (BT.node (hd.o_360 P) BT.nil BT.nil)) (BT.node (hd.o_169 P) (BT.node (hd.o_233 P) BT.nil BT.nil) BT.nil)))) (BT.node (hd.o_55 P) (BT.node (hd.o_63 P) (BT.node (hd.o_83 P) (BT.node (hd.o_117 P) (BT.node (hd.o_181 P) BT.nil BT.nil) (BT.node (hd.o_245 P) BT.nil BT.nil)) (BT.node (hd.o_149 P) (BT.node (hd.o_213 P) BT.nil BT.nil) BT.nil)) (BT.node (hd.o_99 P) (BT.node (hd.o_133 P) (BT.node (hd.o_197 P) BT.nil BT.nil) (BT.node (hd.o_356 P) BT.nil BT.nil)) (BT.node (hd.o_165 P) (BT.node (hd.o_229 P) BT.nil BT.nil) BT.nil))) (BT.node (hd.o_71 P) (BT.node (hd.o_91 P) (BT.node (hd.o_125 P) (BT.node (hd.o_189 P) BT.nil BT.nil) (BT.node (hd.o_348 P) BT.nil BT.nil)) (BT.node (hd.o_157 P) (BT.node (hd.o_221 P) BT.nil BT.nil) BT.nil)) (BT.node (hd.o_107 P) (BT.node (hd.o_141 P) (BT.node (hd.o_205 P) BT.nil BT.nil) (BT.node (hd.o_364 P) BT.nil BT.nil)) (BT.node (hd.o_173 P) (BT.node (hd.o_237 P) BT.nil BT.nil) BT.nil))))))
noncomputable def hd.tree_426 : Params → BT := fun P => BT.node (hd.o_41 P) (BT.node (hd.o_42 P) (BT.node (hd.o_369 P) (BT.node (hd.o_48 P) (BT.node (hd.o_56 P) (BT.node (hd.o_72 P) (BT.node (hd.o_108 P) (BT.node (hd.o_174 P) (BT.node (hd.o_400 P) BT.nil BT.nil) BT.nil) (BT.node (hd.o_238 P) BT.nil BT.nil)) (BT.node (hd.o_142 P) (BT.node (hd.o_206 P) BT.nil BT.nil) (BT.node (hd.o_365 P) BT.nil BT.nil))) (BT.node (hd.o_92 P) (BT.node (hd.o_126 P) (BT.node (hd.o_190 P) (BT.node (hd.o_416 P) BT.nil BT.nil) BT.nil) (BT.node (hd.o_349 P) BT.nil BT.nil)) (BT.node (hd.o_158 P) (BT.node (hd.o_222 P) BT.nil BT.nil) (BT.node (hd.o_384 P) BT.nil BT.nil)))) (BT.node (hd.o_64 P) (BT.node (hd.o_84 P) (BT.node (hd.o_118 P) (BT.node (hd.o_182 P) (BT.node (hd.o_408 P) BT.nil BT.nil) BT.nil) (BT.node (hd.o_246 P) BT.nil BT.nil)) (BT.node (hd.o_150 P) (BT.node (hd.o_214 P) BT.nil BT.nil) (BT.node (hd.o_376 P) BT.nil BT.nil))) (BT.node (hd.o_100 P) (BT.node (hd.o_134 P) (BT.node (hd.o_198 P) (BT.node (hd.o_424 P) BT.nil BT.nil) BT.nil) (BT.node (hd.o_357 P) BT.nil BT.nil)) (BT.node (hd.o_166 P) (BT.node (hd.o_230 P) BT.nil BT.nil) (BT.node (hd.o_392 P) BT.nil BT.nil))))) (BT.node (hd.o_52 P) (BT.node (hd.o_60 P) (BT.node (hd.o_80 P) (BT.node (hd.o_112 P) (BT.node (hd.o_178 P) (BT.node (hd.o_404 P) BT.nil BT.nil) BT.nil) (BT.node (hd.o_371 P) BT.nil BT.nil)) (BT.node (hd.o_146 P) (BT.node (hd.o_210 P) BT.nil BT.nil) (BT.node (hd.o_372 P) BT.nil BT.nil))) (BT.node (hd.o_96 P) (BT.node (hd.o_130 P) (BT.node (hd.o_194 P) (BT.node (hd.o_420 P) BT.nil BT.nil) BT.nil) (BT.node (hd.o_353 P) BT.nil BT.nil)) (BT.node (hd.o_162 P) (BT.node (hd.o_226 P) BT.nil BT.nil) (BT.node (hd.o_388 P) BT.nil BT.nil)))) (BT.node (hd.o_68 P) (BT.node (hd.o_88 P) (BT.node (hd.o_122 P) (BT.node (hd.o_186 P) (BT.node (hd.o_412 P) BT.nil BT.nil) BT.nil) (BT.node (hd.o_345 P) BT.nil BT.nil)) (BT.node (hd.o_154 P) (BT.node (hd.o_218 P) BT.nil BT.nil) (BT.node (hd.o_380 P) BT.nil BT.nil))) (BT.node (hd.o_104 P) (BT.node (hd.o_138 P) (BT.node (hd.o_202 P) BT.nil BT.nil) (BT.node (hd.o_361 P) BT.nil BT.nil)) (BT.node (hd.o_170 P) (BT.node (hd.o_234 P) BT.nil BT.nil) (BT.node (hd.o_396 P) BT.nil BT.nil)))))) (BT.node (hd.o_46 P) (BT.node (hd.o_50 P) (BT.node (hd.o_58 P) (BT.node (hd.o_78 P) (BT.node (hd.o_110 P) (BT.node (hd.o_176 P) (BT.node (hd.o_402 P) BT.nil BT.nil) BT.nil) (BT.node (hd.o_240 P) BT.nil BT.nil)) (BT.node (hd.o_144 P) (BT.node (hd.o_208 P) BT.nil BT.nil) (BT.node (hd.o_367 P) BT.nil BT.nil))) (BT.node (hd.o_94 P) (BT.node (hd.o_128 P) (BT.node (hd.o_192 P) (BT.node (hd.o_418 P) BT.nil BT.nil) BT.nil) (BT.node (hd.o_351 P) BT.nil BT.nil)) (BT.node (hd.o_160 P) (BT.node (hd.o_224 P) BT.nil BT.nil) (BT.node (hd.o_386 P) BT.nil BT.nil)))) (BT.node (hd.o_66 P) (BT.node (hd.o_86 P) (BT.node (hd.o_120 P) (BT.node (hd.o_184 P) (BT.node (hd.o_410 P) BT.nil BT.nil) BT.nil) (BT.node (hd.o_343 P) BT.nil BT.nil)) (BT.node (hd.o_152 P) (BT.node (hd.o_216 P) BT.nil BT.nil) (BT.node (hd.o_378 P) BT.nil BT.nil))) (BT.node (hd.o_102 P) (BT.node (hd.o_136 P) (BT.node (hd.o_200 P) (BT.node (hd.o_426 P) BT.nil BT.nil) BT.nil) (BT.node (hd.o_359 P) BT.nil BT.nil)) (BT.node (hd.o_168 P) (BT.node (hd.o_232 P) BT.nil BT.nil) (BT.node (hd.o_394 P) BT.nil BT.nil))))) (BT.node (hd.o_54 P) (BT.node (hd.o_62 P) (BT.node (hd.o_82 P) (BT.node (hd.o_116 P) (BT.node (hd.o_180 P) (BT.node (hd.o_406 P) BT.nil BT.nil) BT.nil) (BT.node (hd.o_244 P) BT.nil BT.nil)) (BT.node (hd.o_148 P) (BT.node (hd.o_212 P) BT.nil BT.nil) (BT.node (hd.o_374 P) BT.nil BT.nil))) (BT.node (hd.o_98 P) (BT.node (hd.o_132 P) (BT.node (hd.o_196 P) (BT.node (hd.o_422 P) BT.nil BT.nil) BT.nil) (BT.node (hd.o_355 P) BT.nil BT.nil)) (BT.node (hd.o_164 P) (BT.node (hd.o_228 P) BT.nil BT.nil) (BT.node (hd.o_390 P) BT.nil BT.nil)))) (BT.node (hd.o_370 P) (BT.node (hd.o_90 P) (BT.node (hd.o_124 P) (BT.node (hd.o_188 P) (BT.node (hd.o_414 P) BT.nil BT.nil) BT.nil) (BT.node (hd.o_347 P) BT.nil BT.nil)) (BT.node (hd.o_156 P) (BT.node (hd.o_220 P) BT.nil BT.nil) (BT.node (hd.o_382 P) BT.nil BT.nil))) (BT.node (hd.o_106 P) (BT.node (hd.o_140 P) (BT.node (hd.o_204 P) BT.nil BT.nil) (BT.node (hd.o_363 P) BT.nil BT.nil)) (BT.node (hd.o_172 P) (BT.node (hd.o_236 P) BT.nil BT.nil) (BT.node (hd.o_398 P) BT.nil BT.nil))))))) (BT.node (hd.o_43 P) (BT.node (hd.o_45 P) (BT.node (hd.o_49 P) (BT.node (hd.o_57 P) (BT.node (hd.o_77 P) (BT.node (hd.o_109 P) (BT.node (hd.o_175 P) (BT.node (hd.o_401 P) BT.nil BT.nil) BT.nil) (BT.node (hd.o_239 P) BT.nil BT.nil)) (BT.node (hd.o_143 P) (BT.node (hd.o_207 P) BT.nil BT.nil) (BT.node (hd.o_366 P) BT.nil BT.nil))) (BT.node (hd.o_93 P) (BT.node (hd.o_127 P) (BT.node (hd.o_191 P) (BT.node (hd.o_417 P) BT.nil BT.nil) BT.nil) (BT.node (hd.o_350 P) BT.nil BT.nil)) (BT.node (hd.o_159 P) (BT.node (hd.o_223 P) BT.nil BT.nil) (BT.node (hd.o_385 P) BT.nil BT.nil)))) (BT.node (hd.o_65 P) (BT.node (hd.o_85 P) (BT.node (hd.o_119 P) (BT.node (hd.o_183 P) (BT.node (hd.o_409 P) BT.nil BT.nil) BT.nil) (BT.node (hd.o_342 P) BT.nil BT.nil)) (BT.node (hd.o_151 P) (BT.node (hd.o_215 P) BT.nil BT.nil) (BT.node (hd.o_377 P) BT.nil BT.nil))) (BT.node (hd.o_101 P) (BT.node (hd.o_135 P) (BT.node (hd.o_199 P) (BT.node (hd.o_425 P) BT.nil BT.nil) BT.nil) (BT.node (hd.o_358 P) BT.nil BT.nil)) (BT.node (hd.o_167 P) (BT.node (hd.o_231 P) BT.nil BT.nil) (BT.node (hd.o_393 P) BT.nil BT.nil))))) (BT.node (hd.o_53 P) (BT.node (hd.o_61 P) (BT.node (hd.o_81 P) (BT.node (hd.o_113 P) (BT.node (hd.o_179 P) (BT.node (hd.o_405 P) BT.nil BT.nil) BT.nil) (BT.node (hd.o_243 P) BT.nil BT.nil)) (BT.node (hd.o_147 P) (BT.node (hd.o_211 P) BT.nil BT.nil) (BT.node (hd.o_373 P) BT.nil BT.nil))) (BT.node (hd.o_97 P) (BT.node (hd.o_131 P) (BT.node (hd.o_195 P) (BT.node (hd.o_421 P) BT.nil BT.nil) BT.nil) (BT.node (hd.o_354 P) BT.nil BT.nil)) (BT.node (hd.o_163 P) (BT.node (hd.o_227 P) BT.nil BT.nil) (BT.node (hd.o_389 P) BT.nil BT.nil)))) (BT.node (hd.o_69 P) (BT.node (hd.o_89 P) (BT.node (hd.o_123 P) (BT.node (hd.o_187 P) (BT.node (hd.o_413 P) BT.nil BT.nil) BT.nil) (BT.node (hd.o_346 P) BT.nil BT.nil)) (BT.node (hd.o_155 P) (BT.node (hd.o_219 P) BT.nil BT.nil) (BT.node (hd.o_381 P) BT.nil BT.nil))) (BT.node (hd.o_105 P) (BT.node (hd.o_139 P) (BT.node (hd.o_203 P) BT.nil BT.nil) (BT.node (hd.o_362 P) BT.nil BT.nil)) (BT.node (hd.o_171 P) (BT.node (hd.o_235 P) BT.nil BT.nil) (BT.node (hd.o_397 P) BT.nil BT.nil)))))) (BT.node (hd.o_47 P) (BT.node (hd.o_51 P) (BT.node (hd.o_59 P) (BT.node (hd.o_79 P) (BT.node (hd.o_111 P) (BT.node (hd.o_177 P) (BT.node (hd.o_403 P) BT.nil BT.nil) BT.nil) (BT.node (hd.o_241 P) BT.nil BT.nil)) (BT.node (hd.o_145 P) (BT.node (hd.o_209 P) BT.nil BT.nil) (BT.node (hd.o_368 P) BT.nil BT.nil))) (BT.node (hd.o_95 P) (BT.node (hd.o_129 P) (BT.node (hd.o_193 P) (BT.node (hd.o_419 P) BT.nil BT.nil) BT.nil) (BT.node (hd.o_352 P) BT.nil BT.nil)) (BT.node (hd.o_161 P) (BT.node (hd.o_225 P) BT.nil BT.nil) (BT.node (hd.o_387 P) BT.nil BT.nil)))) (BT.node (hd.o_67 P) (BT.node (hd.o_87 P) (BT.node (hd.o_121 P) (BT.node (hd.o_185 P) (BT.node (hd.o_411 P) BT.nil BT.nil) BT.nil) (BT.node (hd.o_344 P) BT.nil BT.nil)) (BT.node (hd.o_153 P) (BT.node (hd.o_217 P) BT.nil BT.nil) (BT.node (hd.o_379 P) BT.nil BT.nil))) (BT.node (hd.o_103 P) (BT.node (hd.o_137 P) (BT.node (hd.o_201 P) BT.nil BT.nil) (BT.node (hd.o_360 P) BT.nil BT.nil)) (BT.node (hd.o_169 P) (BT.node (hd.o_233 P) BT.nil BT.nil) (BT.node (hd.o_395 P) BT.nil BT.nil))))) (BT.node (hd.o_55 P) (BT.node (hd.o_63 P) (BT.node (hd.o_83 P) (BT.node (hd.o_117 P) (BT.node (hd.o_181 P) (BT.node (hd.o_407 P) BT.nil BT.nil) BT.nil) (BT.node (hd.o_245 P) BT.nil BT.nil)) (BT.node (hd.o_149 P) (BT.node (hd.o_213 P) BT.nil BT.nil) (BT.node (hd.o_375 P) BT.nil BT.nil))) (BT.node (hd.o_99 P) (BT.node (hd.o_133 P) (BT.node (hd.o_197 P) (BT.node (hd.o_423 P) BT.nil BT.nil) BT.nil) (BT.node (hd.o_356 P) BT.nil BT.nil)) (BT.node (hd.o_165 P) (BT.node (hd.o_229 P) BT.nil BT.nil) (BT.node (hd.o_391 P) BT.nil BT.nil)))) (BT.node (hd.o_71 P) (BT.node (hd.o_91 P) (BT.node (hd.o_125 P) (BT.node (hd.o_189 P) (BT.node (hd.o_415 P) BT.nil BT.nil) BT.nil) (BT.node (hd.o_348 P) BT.nil BT.nil)) (BT.node (hd.o_157 P) (BT.node (hd.o_221 P) BT.nil BT.nil) (BT.node (hd.o_383 P) BT.nil BT.nil))) (BT.node (hd.o_107 P) (BT.node (hd.o_141 P) (BT.node (hd.o_205 P) BT.nil BT.nil) (BT.node (hd.o_364 P) BT.nil BT.nil)) (BT.node (hd.o_173 P) (BT.node (hd.o_237 P) BT.nil BT.nil) (BT.node (hd.o_399 P) BT.nil BT.nil)))))))
noncomputable def hd.tree_491 : Params → BT := fun P => BT.node (hd.o_41 P) (BT.node (hd.o_42 P) (BT.node (hd.o_483 P) (BT.node (hd.o_48 P) (BT.node (hd.o_56 P) (BT.node (hd.o_72 P) (BT.node (hd.o_108 P) (BT.node (hd.o_174 P) (BT.node (hd.o_400 P) BT.nil BT.nil) BT.nil) (BT.node (hd.o_238 P) BT.nil BT.nil)) (BT.node (hd.o_142 P) (BT.node (hd.o_206 P) (BT.node (hd.o_490 P) BT.nil BT.nil) BT.nil) (BT.node (hd.o_365 P) BT.nil BT.nil))) (BT.node (hd.o_92 P) (BT.node (hd.o_126 P) (BT.node (hd.o_190 P) (BT.node (hd.o_416 P) BT.nil BT.nil) BT.nil) (BT.node (hd.o_349 P) BT.nil BT.nil)) (BT.node (hd.o_158 P) (BT.node (hd.o_222 P) BT.nil BT.nil) (BT.node (hd.o_384 P) BT.nil BT.nil)))) (BT.node (hd.o_64 P) (BT.node (hd.o_84 P) (BT.node (hd.o_118 P) (BT.node (hd.o_182 P) (BT.node (hd.o_408 P) BT.nil BT.nil) BT.nil) (BT.node (hd.o_246 P) BT.nil BT.nil)) (BT.node (hd.o_150 P) (BT.node (hd.o_214 P) BT.nil BT.nil) (BT.node (hd.o_376 P) BT.nil BT.nil))) (BT.node (hd.o_100 P) (BT.node (hd.o_134 P) (BT.node (hd.o_198 P) (BT.node (hd.o_424 P) BT.nil BT.nil) BT.nil) (BT.node (hd.o_357 P) BT.nil BT.nil)) (BT.node (hd.o_166 P) (BT.node (hd.o_230 P) BT.nil BT.nil) (BT.node (hd.o_392 P) BT.nil BT.nil))))) (BT.node (hd.o_52 P) (BT.node (hd.o_60 P) (BT.node (hd.o_80 P) (BT.node (hd.o_112 P) (BT.node (hd.o_178 P) (BT.node (hd.o_404 P) BT.nil BT.nil) BT.nil) (BT.node (hd.o_371 P) BT.nil BT.nil)) (BT.node (hd.o_146 P) (BT.node (hd.o_210 P) BT.nil BT.nil) (BT.node (hd.o_372 P) BT.nil BT.nil))) (BT.node (hd.o_96 P) (BT.node (hd.o_130 P) (BT.node (hd.o_194 P) (BT.node (hd.o_420 P) BT.nil BT.nil) BT.nil) (BT.node (hd.o_353 P) BT.nil BT.nil)) (BT.node (hd.o_162 P) (BT.node (hd.o_226 P) BT.nil BT.nil) (BT.node (hd.o_388 P) BT.nil BT.nil)))) (BT.node (hd.o_68 P) (BT.node (hd.o_88 P) (BT.node (hd.o_122 P) (BT.node (hd.o_186 P) (BT.node (hd.o_412 P) BT.nil BT.nil) BT.nil) (BT.node (hd.o_345 P) BT.nil BT.nil)) (BT.node (hd.o_154 P) (BT.node (hd.o_218 P) BT.nil BT.nil) (BT.node (hd.o_380 P) BT.nil BT.nil))) (BT.node (hd.o_104 P) (BT.node (hd.o_138 P) (BT.node (hd.o_202 P) (BT.node (hd.o_486 P) BT.nil BT.nil) BT.nil) (BT.node (hd.o_361 P) BT.nil BT.nil)) (BT.node (hd.o_170 P) (BT.node (hd.o_234 P) BT.nil BT.nil) (BT.node (hd.o_396 P) BT.nil BT.nil)))))) (BT.node (hd.o_46 P) (BT.node (hd.o_50 P) (BT.node (hd.o_58 P) (BT.node (hd.o_78 P) (BT.node (hd.o_110 P) (BT.node (hd.o_176 P) (BT.node (hd.o_402 P) BT.nil BT.nil) BT.nil) (BT.node (hd.o_240 P) BT.nil BT.nil)) (BT.node (hd.o_144 P) (BT.node (hd.o_208 P) BT.nil BT.nil) (BT.node (hd.o_367 P) BT.nil BT.nil))) (BT.node (hd.o_94 P) (BT.node (hd.o_128 P) (BT.node (hd.o_192 P) (BT.node (hd.o_418 P) BT.nil BT.nil) BT.nil) (BT.node (hd.o_351 P) BT.nil BT.nil)) (BT.node (hd.o_160 P) (BT.node (hd.o_224 P) BT.nil BT.nil) (BT.node (hd.o_386 P) BT.nil BT.nil)))) (BT.node (hd.o_66 P) (BT.node (hd.o_86 P) (BT.node (hd.o_120 P) (BT.node (hd.o_184 P) (BT.node (hd.o_410 P) BT.nil BT.nil) BT.nil) (BT.node (hd.o_343 P) BT.nil BT.nil)) (BT.node (hd.o_152 P) (BT.node (hd.o_216 P) BT.nil BT.nil) (BT.node (hd.o_378 P) BT.nil BT.nil))) (BT.node (hd.o_102 P) (BT.node (hd.o_136 P) (BT.node (hd.o_200 P) (BT.node (hd.o_426 P) BT.nil BT.nil) BT.nil) (BT.node (hd.o_359 P) BT.nil BT.nil)) (BT.node (hd.o_168 P) (BT.node (hd.o_232 P) BT.nil BT.nil) (BT.node (hd.o_394 P) BT.nil BT.nil))))) (BT.node (hd.o_54 P) (BT.node (hd.o_62 P) (BT.node (hd.o_82 P) (BT.node (hd.o_116 P) (BT.node (hd.o_180 P) (BT.node (hd.o_406 P) BT.nil BT.nil) BT.nil) (BT.node (hd.o_244 P) BT.nil BT.nil)) (BT.node (hd.o_148 P) (BT.node (hd.o_212 P) BT.nil BT.nil) (BT.node (hd.o_374 P) BT.nil BT.nil))) (BT.node (hd.o_98 P) (BT.node (hd.o_132 P) (BT.node (hd.o_196 P) (BT.node (hd.o_422 P) BT.nil BT.nil) BT.nil) (BT.node (hd.o_355 P) BT.nil BT.nil)) (BT.node (hd.o_164 P) (BT.node (hd.o_228 P) BT.nil BT.nil) (BT.node (hd.o_390 P) BT.nil BT.nil)))) (BT.node (hd.o_484 P) (BT.node (hd.o_90 P) (BT.node (hd.o_124 P) (BT.node (hd.o_188 P) (BT.node (hd.o_414 P) BT.nil BT.nil) BT.nil) (BT.node (hd.o_347 P) BT.nil BT.nil)) (BT.node (hd.o_156 P) (BT.node (hd.o_220 P) BT.nil BT.nil) (BT.node (hd.o_382 P) BT.nil BT.nil))) (BT.node (hd.o_106 P) (BT.node (hd.o_140 P) (BT.node (hd.o_204 P) (BT.node (hd.o_488 P) BT.nil BT.nil) BT.nil) (BT.node (hd.o_363 P) BT.nil BT.nil)) (BT.node (hd.o_172 P) (BT.node (hd.o_236 P) BT.nil BT.nil) (BT.node (hd.o_398 P) BT.nil BT.nil))))))) (BT.node (hd.o_43 P) (BT.node (hd.o_45 P) (BT.node (hd.o_49 P) (BT.node (hd.o_57 P) (BT.node (hd.o_77 P) (BT.node (hd.o_109 P) (BT.node (hd.o_175 P) (BT.node (hd.o_401 P) BT.nil BT.nil) BT.nil) (BT.node (hd.o_239 P) BT.nil BT.nil)) (BT.node (hd.o_143 P) (BT.node (hd.o_207 P) (BT.node (hd.o_491 P) BT.nil BT.nil) BT.nil) (BT.node (hd.o_366 P) BT.nil BT.nil))) (BT.node (hd.o_93 P) (BT.node (hd.o_127 P) (BT.node (hd.o_191 P) (BT.node (hd.o_417 P) BT.nil BT.nil) BT.nil) (BT.node (hd.o_350 P) BT.nil BT.nil)) (BT.node (hd.o_159 P) (BT.node (hd.o_223 P) BT.nil BT.nil) (BT.node (hd.o_385 P) BT.nil BT.nil)))) (BT.node (hd.o_65 P) (BT.node (hd.o_85 P) (BT.node (hd.o_119 P) (BT.node (hd.o_183 P) (BT.node (hd.o_409 P) BT.nil BT.nil) BT.nil) (BT.node (hd.o_342 P) BT.nil BT.nil)) (BT.node (hd.o_151 P) (BT.node (hd.o_215 P) BT.nil BT.nil) (BT.node (hd.o_377 P) BT.nil BT.nil))) (BT.node (hd.o_101 P) (BT.node (hd.o_135 P) (BT.node (hd.o_199 P) (BT.node (hd.o_425 P) BT.nil BT.nil) BT.nil) (BT.node (hd.o_358 P) BT.nil BT.nil)) (BT.node (hd.o_167 P) (BT.node (hd.o_231 P) BT.nil BT.nil) (BT.node (hd.o_393 P) BT.nil BT.nil))))) (BT.node (hd.o_53 P) (BT.node (hd.o_61 P) (BT.node (hd.o_81 P) (BT.node (hd.o_113 P) (BT.node (hd.o_179 P) (BT.node (hd.o_405 P) BT.nil BT.nil) BT.nil) (BT.node (hd.o_243 P) BT.nil BT.nil)) (BT.node (hd.o_147 P) (BT.node (hd.o_211 P) BT.nil BT.nil) (BT.node (hd.o_373 P) BT.nil BT.nil))) (BT.node (hd.o_97 P) (BT.node (hd.o_131 P) (BT.node (hd.o_195 P) (BT.node (hd.o_421 P) BT.nil BT.nil) BT.nil) (BT.node (hd.o_354 P) BT.nil BT.nil)) (BT.node (hd.o_163 P) (BT.node (hd.o_227 P) BT.nil BT.nil) (BT.node (hd.o_389 P) BT.nil BT.nil)))) (BT.node (hd.o_69 P) (BT.node (hd.o_89 P) (BT.node (hd.o_123 P) (BT.node (hd.o_187 P) (BT.node (hd.o_413 P) BT.nil BT.nil) BT.nil) (BT.node (hd.o_346 P) BT.nil BT.nil)) (BT.node (hd.o_155 P) (BT.node (hd.o_219 P) BT.nil BT.nil) (BT.node (hd.o_381 P) BT.nil BT.nil))) (BT.node (hd.o_105 P) (BT.node (hd.o_139 P) (BT.node (hd.o_203 P) (BT.node (hd.o_487 P) BT.nil BT.nil) BT.nil) (BT.node (hd.o_362 P) BT.nil BT.nil)) (BT.node (hd.o_171 P) (BT.node (hd.o_235 P) BT.nil BT.nil) (BT.node (hd.o_397 P) BT.nil BT.nil)))))) (BT.node (hd.o_47 P) (BT.node (hd.o_51 P) (BT.node (hd.o_59 P) (BT.node (hd.o_79 P) (BT.node (hd.o_111 P) (BT.node (hd.o_177 P) (BT.node (hd.o_403 P) BT.nil BT.nil) BT.nil) (BT.node (hd.o_241 P) BT.nil BT.nil)) (BT.node (hd.o_145 P) (BT.node (hd.o_209 P) BT.nil BT.nil) (BT.node (hd.o_368 P) BT.nil BT.nil))) (BT.node (hd.o_95 P) (BT.node (hd.o_129 P) (BT.node (hd.o_193 P) (BT.node (hd.o_419 P) BT.nil BT.nil) BT.nil) (BT.node (hd.o_352 P) BT.nil BT.nil)) (BT.node (hd.o_161 P) (BT.node (hd.o_225 P) BT.nil BT.nil) (BT.node (hd.o_387 P) BT.nil BT.nil)))) (BT.node (hd.o_67 P) (BT.node (hd.o_87 P) (BT.node (hd.o_121 P) (BT.node (hd.o_185 P) (BT.node (hd.o_411 P) BT.nil BT.nil) BT.nil) (BT.node (hd.o_344 P) BT.nil BT.nil)) (BT.node (hd.o_153 P) (BT.node (hd.o_217 P) BT.nil BT.nil) (BT.node (hd.o_379 P) BT.nil BT.nil))) (BT.node (hd.o_103 P) (BT.node (hd.o_137 P) (BT.node (hd.o_201 P) (BT.node (hd.o_485 P) BT.nil BT.nil) BT.nil) (BT.node (hd.o_360 P) BT.nil BT.nil)) (BT.node (hd.o_169 P) (BT.node (hd.o_233 P) BT.nil BT.nil) (BT.node (hd.o_395 P) BT.nil BT.nil))))) (BT.node (hd.o_55 P) (BT.node (hd.o_63 P) (BT.node (hd.o_83 P) (BT.node (hd.o_117 P) (BT.node (hd.o_181 P) (BT.node (hd.o_407 P) BT.nil BT.nil) BT.nil) (BT.node (hd.o_245 P) BT.nil BT.nil)) (BT.node (hd.o_149 P) (BT.node (hd.o_213 P) BT.nil BT.nil) (BT.node (hd.o_375 P) BT.nil BT.nil))) (BT.node (hd.o_99 P) (BT.node (hd.o_133 P) (BT.node (hd.o_197 P) (BT.node (hd.o_423 P) BT.nil BT.nil) BT.nil) (BT.node (hd.o_356 P) BT.nil BT.nil)) (BT.node (hd.o_165 P) (BT.node (hd.o_229 P) BT.nil BT.nil) (BT.node (hd.o_391 P) BT.nil BT.nil)))) (BT.node (hd.o_71 P) (BT.node (hd.o_91 P) (BT.node (hd.o_125 P) (BT.node (hd.o_189 P) (BT.node (hd.o_415 P) BT.nil BT.nil) BT.nil) (BT.node (hd.o_348 P) BT.nil BT.nil)) (BT.node (hd.o_157 P) (BT.node (hd.o_221 P) BT.nil BT.nil) (BT.node (hd.o_383 P) BT.nil BT.nil))) (BT.node (hd.o_107 P) (BT.node (hd.o_141 P) (BT.node (hd.o_205 P) (BT.node (hd.o_489 P) BT.nil BT.nil) BT.nil) (BT.node (hd.o_364 P) BT.nil BT.nil)) (BT.node (hd.o_173 P) (BT.node (hd.o_237 P) BT.nil BT.nil) (BT.node (hd.o_399 P) BT.nil BT.nil)))))))
noncomputable def hd.tree_546 : Params → BT := fun P => BT.node (hd.o_41 P) (BT.node (hd.o_42 P) (BT.node (hd.o_493 P) (BT.node (hd.o_48 P) (BT.node (hd.o_56 P) (BT.node (hd.o_72 P) (BT.node (hd.o_108 P) (BT.node (hd.o_174 P) (BT.node (hd.o_400 P) BT.nil BT.nil) BT.nil) (BT.node (hd.o_238 P) (BT.node (hd.o_525 P) BT.nil BT.nil) BT.nil)) (BT.node (hd.o_142 P) (BT.node (hd.o_206 P) (BT.node (hd.o_490 P) BT.nil BT.nil) BT.nil) (BT.node (hd.o_365 P) BT.nil BT.nil))) (BT.node (hd.o_92 P) (BT.node (hd.o_126 P) (BT.node (hd.o_190 P) (BT.node (hd.o_416 P) BT.nil BT.nil) BT.nil) (BT.node (hd.o_349 P) (BT.node (hd.o_541 P) BT.nil BT.nil) BT.nil)) (BT.node (hd.o_158 P) (BT.node (hd.o_222 P) (BT.node (hd.o_509 P) BT.nil BT.nil) BT.nil) (BT.node (hd.o_384 P) BT.nil BT.nil)))) (BT.node (hd.o_64 P) (BT.node (hd.o_84 P) (BT.node (hd.o_118 P) (BT.node (hd.o_182 P) (BT.node (hd.o_408 P) BT.nil BT.nil) BT.nil) (BT.node (hd.o_246 P) (BT.node (hd.o_533 P) BT.nil BT.nil) BT.nil)) (BT.node (hd.o_150 P) (BT.node (hd.o_214 P) (BT.node (hd.o_501 P) BT.nil BT.nil) BT.nil) (BT.node (hd.o_376 P) BT.nil BT.nil))) (BT.node (hd.o_100 P) (BT.node (hd.o_134 P) (BT.node (hd.o_198 P) (BT.node (hd.o_424 P) BT.nil BT.nil) BT.nil) (BT.node (hd.o_357 P) BT.nil BT.nil)) (BT.node (hd.o_166 P) (BT.node (hd.o_230 P) (BT.node (hd.o_517 P) BT.nil BT.nil) BT.nil) (BT.node (hd.o_392 P) BT.nil BT.nil))))) (BT.node (hd.o_52 P) (BT.node (hd.o_60 P) (BT.node (hd.o_80 P) (BT.node (hd.o_112 P) (BT.node (hd.o_178 P) (BT.node (hd.o_404 P) BT.nil BT.nil) BT.nil) (BT.node (hd.o_371 P) (BT.node (hd.o_529 P) BT.nil BT.nil) BT.nil)) (BT.node (hd.o_146 P) (BT.node (hd.o_210 P) (BT.node (hd.o_497 P) BT.nil BT.nil) BT.nil) (BT.node (hd.o_372 P) BT.nil BT.nil))) (BT.node (hd.o_96 P) (BT.node (hd.o_130 P) (BT.node (hd.o_194 P) (BT.node (hd.o_420 P) BT.nil BT.nil) BT.nil) (BT.node (hd.o_353 P) (BT.node (hd.o_545 P) BT.nil BT.nil) BT.nil)) (BT.node (hd.o_162 P) (BT.node (hd.o_226 P) (BT.node (hd.o_513 P) BT.nil BT.nil) BT.nil) (BT.node (hd.o_388 P) BT.nil BT.nil)))) (BT.node (hd.o_68 P) (BT.node (hd.o_88 P) (BT.node (hd.o_122 P) (BT.node (hd.o_186 P) (BT.node (hd.o_412 P) BT.nil BT.nil) BT.nil) (BT.node (hd.o_345 P) (BT.node (hd.o_537 P) BT.nil BT.nil) BT.nil)) (BT.node (hd.o_154 P) (BT.node (hd.o_218 P) (BT.node (hd.o_505 P) BT.nil BT.nil) BT.nil) (BT.node (hd.o_380 P) BT.nil BT.nil))) (BT.node (hd.o_104 P) (BT.node (hd.o_138 P) (BT.node (hd.o_202 P) (BT.node (hd.o_486 P) BT.nil BT.nil) BT.nil) (BT.node (hd.o_361 P) BT.nil BT.nil)) (BT.node (hd.o_170 P) (BT.node (hd.o_234 P) (BT.node (hd.o_521 P) BT.nil BT.nil) BT.nil) (BT.node (hd.o_396 P) BT.nil BT.nil)))))) (BT.node (hd.o_46 P) (BT.node (hd.o_50 P) (BT.node (hd.o_58 P) (BT.node (hd.o_78 P) (BT.node (hd.o_110 P) (BT.node (hd.o_176 P) (BT.node (hd.o_402 P) BT.nil BT.nil) BT.nil) (BT.node (hd.o_240 P) (BT.node (hd.o_527 P) BT.nil BT.nil) BT.nil)) (BT.node (hd.o_144 P) (BT.node (hd.o_208 P) (BT.node (hd.o_495 P) BT.nil BT.nil) BT.nil) (BT.node (hd.o_367 P) BT.nil BT.nil))) (BT.node (hd.o_94 P) (BT.node (hd.o_128 P) (BT.node (hd.o_192 P) (BT.node (hd.o_418 P) BT.nil BT.nil) BT.nil) (BT.node (hd.o_351 P) (BT.node (hd.o_543 P) BT.nil BT.nil) BT.nil)) (BT.node (hd.o_160 P) (BT.node (hd.o_224 P) (BT.node (hd.o_511 P) BT.nil BT.nil) BT.nil) (BT.node (hd.o_386 P) BT.nil BT.nil)))) (BT.node (hd.o_66 P) (BT.node (hd.o_86 P) (BT.node (hd.o_120 P) (BT.node (hd.o_184 P) (BT.node (hd.o_410 P) BT.nil BT.nil) BT.nil) (BT.node (hd.o_343 P) (BT.node (hd.o_535 P) BT.nil BT.nil) BT.nil)) (BT.node (hd.o_152 P) (BT.node (hd.o_216 P) (BT.node (hd.o_503 P) BT.nil BT.nil) BT.nil) (BT.node (hd.o_378 P) BT.nil BT.nil))) (BT.node (hd.o_102 P) (BT.node (hd.o_136 P) (BT.node (hd.o_200 P) (BT.node (hd.o_426 P) BT.nil BT.nil) BT.nil) (BT.node (hd.o_359 P) BT.nil BT.nil)) (BT.node (hd.o_168 P) (BT.node (hd.o_232 P) (BT.node (hd.o_519 P) BT.nil BT.nil) BT.nil) (BT.node (hd.o_394 P) BT.nil BT.nil))))) (BT.node (hd.o_54 P) (BT.node (hd.o_62 P) (BT.node (hd.o_82 P) (BT.node (hd.o_116 P) (BT.node (hd.o_180 P) (BT.node (hd.o_406 P) BT.nil BT.nil) BT.nil) (BT.node (hd.o_244 P) (BT.node (hd.o_531 P) BT.nil BT.nil) BT.nil)) (BT.node (hd.o_148 P) (BT.node (hd.o_212 P) (BT.node (hd.o_499 P) BT.nil BT.nil) BT.nil) (BT.node (hd.o_374 P) BT.nil BT.nil))) (BT.node (hd.o_98 P) (BT.node (hd.o_132 P) (BT.node (hd.o_196 P) (BT.node (hd.o_422 P) BT.nil BT.nil) BT.nil) (BT.node (hd.o_355 P) BT.nil BT.nil)) (BT.node (hd.o_164 P) (BT.node (hd.o_228 P) (BT.node (hd.o_515 P) BT.nil BT.nil) BT.nil) (BT.node (hd.o_390 P) BT.nil BT.nil)))) (BT.node (hd.o_494 P) (BT.node (hd.o_90 P) (BT.node (hd.o_124 P) (BT.node (hd.o_188 P) (BT.node (hd.o_414 P) BT.nil BT.nil) BT.nil) (BT.node (hd.o_347 P) (BT.node (hd.o_539 P) BT.nil BT.nil) BT.nil)) (BT.node (hd.o_156 P) (BT.node (hd.o_220 P) (BT.node (hd.o_507 P) BT.nil BT.nil) BT.nil) (BT.node (hd.o_382 P) BT.nil BT.nil))) (BT.node (hd.o_106 P) (BT.node (hd.o_140 P) (BT.node (hd.o_204 P) (BT.node (hd.o_488 P) BT.nil BT.nil) BT.nil) (BT.node (hd.o_363 P) BT.nil BT.nil)) (BT.node (hd.o_172 P) (BT.node (hd.o_236 P) (BT.node (hd.o_523 P) BT.nil BT.nil) BT.nil) (BT.node (hd.o_398 P) BT.nil BT.nil))))))) (BT.node (hd.o_492 P) (BT.node (hd.o_45 P) (BT.node (hd.o_49 P) (BT.node (hd.o_57 P) (BT.node (hd.o_77 P) (BT.node (hd.o_109 P) (BT.node (hd.o_175 P) (BT.node (hd.o_401 P) BT.nil BT.nil) BT.nil) (BT.node (hd.o_239 P) (BT.node (hd.o_526 P) BT.nil BT.nil) BT.nil)) (BT.node (hd.o_143 P) (BT.node (hd.o_207 P) (BT.node (hd.o_491 P) BT.nil BT.nil) BT.nil) (BT.node (hd.o_366 P) BT.nil BT.nil))) (BT.node (hd.o_93 P) (BT.node (hd.o_127 P) (BT.node (hd.o_191 P) (BT.node (hd.o_417 P) BT.nil BT.nil) BT.nil) (BT.node (hd.o_350 P) (BT.node (hd.o_542 P) BT.nil BT.nil) BT.nil)) (BT.node (hd.o_159 P) (BT.node (hd.o_223 P) (BT.node (hd.o_510 P) BT.nil BT.nil) BT.nil) (BT.node (hd.o_385 P) BT.nil BT.nil)))) (BT.node (hd.o_65 P) (BT.node (hd.o_85 P) (BT.node (hd.o_119 P) (BT.node (hd.o_183 P) (BT.node (hd.o_409 P) BT.nil BT.nil) BT.nil) (BT.node (hd.o_342 P) (BT.node (hd.o_534 P) BT.nil BT.nil) BT.nil)) (BT.node (hd.o_151 P) (BT.node (hd.o_215 P) (BT.node (hd.o_502 P) BT.nil BT.nil) BT.nil) (BT.node (hd.o_377 P) BT.nil BT.nil))) (BT.node (hd.o_101 P) (BT.node (hd.o_135 P) (BT.node (hd.o_199 P) (BT.node (hd.o_425 P) BT.nil BT.nil) BT.nil) (BT.node (hd.o_358 P) BT.nil BT.nil)) (BT.node (hd.o_167 P) (BT.node (hd.o_231 P) (BT.node (hd.o_518 P) BT.nil BT.nil) BT.nil) (BT.node (hd.o_393 P) BT.nil BT.nil))))) (BT.node (hd.o_53 P) (BT.node (hd.o_61 P) (BT.node (hd.o_81 P) (BT.node (hd.o_113 P) (BT.node (hd.o_179 P) (BT.node (hd.o_405 P) BT.nil BT.nil) BT.nil) (BT.node (hd.o_243 P) (BT.node (hd.o_530 P) BT.nil BT.nil) BT.nil)) (BT.node (hd.o_147 P) (BT.node (hd.o_211 P) (BT.node (hd.o_498 P) BT.nil BT.nil) BT.nil) (BT.node (hd.o_373 P) BT.nil BT.nil))) (BT.node (hd.o_97 P) (BT.node (hd.o_131 P) (BT.node (hd.o_195 P) (BT.node (hd.o_421 P) BT.nil BT.nil) BT.nil) (BT.node (hd.o_354 P) (BT.node (hd.o_546 P) BT.nil BT.nil) BT.nil)) (BT.node (hd.o_163 P) (BT.node (hd.o_227 P) (BT.node (hd.o_514 P) BT.nil BT.nil) BT.nil) (BT.node (hd.o_389 P) BT.nil BT.nil)))) (BT.node (hd.o_69 P) (BT.node (hd.o_89 P) (BT.node (hd.o_123 P) (BT.node (hd.o_187 P) (BT.node (hd.o_413 P) BT.nil BT.nil) BT.nil) (BT.node (hd.o_346 P) (BT.node (hd.o_538 P) BT.nil BT.nil) BT.nil)) (BT.node (hd.o_155 P) (BT.node (hd.o_219 P) (BT.node (hd.o_506 P) BT.nil BT.nil) BT.nil) (BT.node (hd.o_381 P) BT.nil BT.nil))) (BT.node (hd.o_105 P) (BT.node (hd.o_139 P) (BT.node (hd.o_203 P) (BT.node (hd.o_487 P) BT.nil BT.nil) BT.nil) (BT.node (hd.o_362 P) BT.nil BT.nil)) (BT.node (hd.o_171 P) (BT.node (hd.o_235 P) (BT.node (hd.o_522 P) BT.nil BT.nil) BT.nil) (BT.node (hd.o_397 P) BT.nil BT.nil)))))) (BT.node (hd.o_47 P) (BT.node (hd.o_51 P) (BT.node (hd.o_59 P) (BT.node (hd.o_79 P) (BT.node (hd.o_111 P) (BT.node (hd.o_177 P) (BT.node (hd.o_403 P) BT.nil BT.nil) BT.nil) (BT.node (hd.o_241 P) (BT.node (hd.o_528 P) BT.nil BT.nil) BT.nil)) (BT.node (hd.o_145 P) (BT.node (hd.o_209 P) (BT.node (hd.o_496 P) BT.nil BT.nil) BT.nil) (BT.node (hd.o_368 P) BT.nil BT.nil))) (BT.node (hd.o_95 P) (BT.node (hd.o_129 P) (BT.node (hd.o_193 P) (BT.node (hd.o_419 P) BT.nil BT.nil) BT.nil) (BT.node (hd.o_352 P) (BT.node (hd.o_544 P) BT.nil BT.nil) BT.nil)) (BT.node (hd.o_161 P) (BT.node (hd.o_225 P) (BT.node (hd.o_512 P) BT.nil BT.nil) BT.nil) (BT.node (hd.o_387 P) BT.nil BT.nil)))) (BT.node (hd.o_67 P) (BT.node (hd.o_87 P) (BT.node (hd.o_121 P) (BT.node (hd.o_185 P) (BT.node (hd.o_411 P) BT.nil BT.nil) BT.nil) (BT.node (hd.o_344 P) (BT.node (hd.o_536 P) BT.nil BT.nil) BT.nil)) (BT.node (hd.o_153 P) (BT.node (hd.o_217 P) (BT.node (hd.o_504 P) BT.nil BT.nil) BT.nil) (BT.node (hd.o_379 P) BT.nil BT.nil))) (BT.node (hd.o_103 P) (BT.node (hd.o_137 P) (BT.node (hd.o_201 P) (BT.node (hd.o_485 P) BT.nil BT.nil) BT.nil) (BT.node (hd.o_360 P) BT.nil BT.nil)) (BT.node (hd.o_169 P) (BT.node (hd.o_233 P) (BT.node (hd.o_520 P) BT.nil BT.nil) BT.nil) (BT.node (hd.o_395 P) BT.nil BT.nil))))) (BT.node (hd.o_55 P) (BT.node (hd.o_63 P) (BT.node (hd.o_83 P) (BT.node (hd.o_117 P) (BT.node (hd.o_181 P) (BT.node (hd.o_407 P) BT.nil BT.nil) BT.nil) (BT.node (hd.o_245 P) (BT.node (hd.o_532 P) BT.nil BT.nil) BT.nil)) (BT.node (hd.o_149 P) (BT.node (hd.o_213 P) (BT.node (hd.o_500 P) BT.nil BT.nil) BT.nil) (BT.node (hd.o_375 P) BT.nil BT.nil))) (BT.node (hd.o_99 P) (BT.node (hd.o_133 P) (BT.node (hd.o_197 P) (BT.node (hd.o_423 P) BT.nil BT.nil) BT.nil) (BT.node (hd.o_356 P) BT.nil BT.nil)) (BT.node (hd.o_165 P) (BT.node (hd.o_229 P) (BT.node (hd.o_516 P) BT.nil BT.nil) BT.nil) (BT.node (hd.o_391 P) BT.nil BT.nil)))) (BT.node (hd.o_71 P) (BT.node (hd.o_91 P) (BT.node (hd.o_125 P) (BT.node (hd.o_189 P) (BT.node (hd.o_415 P) BT.nil BT.nil) BT.nil) (BT.node (hd.o_348 P) (BT.node (hd.o_540 P) BT.nil BT.nil) BT.nil)) (BT.node (hd.o_157 P) (BT.node (hd.o_221 P) (BT.node (hd.o_508 P) BT.nil BT.nil) BT.nil) (BT.node (hd.o_383 P) BT.nil BT.nil))) (BT.node (hd.o_107 P) (BT.node (hd.o_141 P) (BT.node (hd.o_205 P) (BT.node (hd.o_489 P) BT.nil BT.nil) BT.nil) (BT.node (hd.o_364 P) BT.nil BT.nil)) (BT.node (hd.o_173 P) (BT.node (hd.o_237 P) (BT.node (hd.o_524 P) BT.nil BT.nil) BT.nil) (BT.node (hd.o_399 P) BT.nil BT.nil)))))))
noncomputable def hd.tree_581 : Params → BT := fun P => BT.node (hd.o_41 P) (BT.node (hd.o_42 P) (BT.node (hd.o_547 P) (BT.node (hd.o_48 P) (BT.node (hd.o_56 P) (BT.node (hd.o_72 P) (BT.node (hd.o_108 P) (BT.node (hd.o_174 P) (BT.node (hd.o_400 P) BT.nil BT.nil) BT.nil) (BT.node (hd.o_238 P) (BT.node (hd.o_525 P) BT.nil BT.nil) BT.nil)) (BT.node (hd.o_142 P) (BT.node (hd.o_206 P) (BT.node (hd.o_490 P) BT.nil BT.nil) BT.nil) (BT.node (hd.o_365 P) (BT.node (hd.o_559 P) BT.nil BT.nil) BT.nil))) (BT.node (hd.o_92 P) (BT.node (hd.o_126 P) (BT.node (hd.o_190 P) (BT.node (hd.o_416 P) BT.nil BT.nil) BT.nil) (BT.node (hd.o_349 P) (BT.node (hd.o_541 P) BT.nil BT.nil) BT.nil)) (BT.node (hd.o_158 P) (BT.node (hd.o_222 P) (BT.node (hd.o_509 P) BT.nil BT.nil) BT.nil) (BT.node (hd.o_384 P) (BT.node (hd.o_575 P) BT.nil BT.nil) BT.nil)))) (BT.node (hd.o_64 P) (BT.node (hd.o_84 P) (BT.node (hd.o_118 P) (BT.node (hd.o_182 P) (BT.node (hd.o_408 P) BT.nil BT.nil) BT.nil) (BT.node (hd.o_246 P) (BT.node (hd.o_533 P) BT.nil BT.nil) BT.nil)) (BT.node (hd.o_150 P) (BT.node (hd.o_214 P) (BT.node (hd.o_501 P) BT.nil BT.nil) BT.nil) (BT.node (hd.o_376 P) (BT.node (hd.o_567 P) BT.nil BT.nil) BT.nil))) (BT.node (hd.o_100 P) (BT.node (hd.o_134 P) (BT.node (hd.o_198 P) (BT.node (hd.o_424 P) BT.nil BT.nil) BT.nil) (BT.node (hd.o_357 P) (BT.node (hd.o_551 P) BT.nil BT.nil) BT.nil)) (BT.node (hd.o_166 P) (BT.node (hd.o_230 P) (BT.node (hd.o_517 P) BT.nil BT.nil) BT.nil) (BT.node (hd.o_392 P) BT.nil BT.nil))))) (BT.node (hd.o_52 P) (BT.node (hd.o_60 P) (BT.node (hd.o_80 P) (BT.node (hd.o_112 P) (BT.node (hd.o_178 P) (BT.node (hd.o_404 P) BT.nil BT.nil) BT.nil) (BT.node (hd.o_371 P) (BT.node (hd.o_529 P) BT.nil BT.nil) BT.nil)) (BT.node (hd.o_146 P) (BT.node (hd.o_210 P) (BT.node (hd.o_497 P) BT.nil BT.nil) BT.nil) (BT.node (hd.o_372 P) (BT.node (hd.o_563 P) BT.nil BT.nil) BT.nil))) (BT.node (hd.o_96 P) (BT.node (hd.o_130 P) (BT.node (hd.o_194 P) (BT.node (hd.o_420 P) BT.nil BT.nil) BT.nil) (BT.node (hd.o_353 P) (BT.node (hd.o_545 P) BT.nil BT.nil) BT.nil)) (BT.node (hd.o_162 P) (BT.node (hd.o_226 P) (BT.node (hd.o_513 P) BT.nil BT.nil) BT.nil) (BT.node (hd.o_388 P) (BT.node (hd.o_579 P) BT.nil BT.nil) BT.nil)))) (BT.node (hd.o_68 P) (BT.node (hd.o_88 P) (BT.node (hd.o_122 P) (BT.node (hd.o_186 P) (BT.node (hd.o_412 P) BT.nil BT.nil) BT.nil) (BT.node (hd.o_345 P) (BT.node (hd.o_537 P) BT.nil BT.nil) BT.nil)) (BT.node (hd.o_154 P) (BT.node (hd.o_218 P) (BT.node (hd.o_505 P) BT.nil BT.nil) BT.nil) (BT.node (hd.o_380 P) (BT.node (hd.o_571 P) BT.nil BT.nil) BT.nil))) (BT.node (hd.o_104 P) (BT.node (hd.o_138 P) (BT.node (hd.o_202 P) (BT.node (hd.o_486 P) BT.nil BT.nil) BT.nil) (BT.node (hd.o_361 P) (BT.node (hd.o_555 P) BT.nil BT.nil) BT.nil)) (BT.node (hd.o_170 P) (BT.node (hd.o_234 P) (BT.node (hd.o_521 P) BT.nil BT.nil) BT.nil) (BT.node (hd.o_396 P) BT.nil BT.nil)))))) (BT.node (hd.o_46 P) (BT.node (hd.o_50 P) (BT.node (hd.o_58 P) (BT.node (hd.o_78 P) (BT.node (hd.o_110 P) (BT.node (hd.o_176 P) (BT.node (hd.o_402 P) BT.nil BT.nil) BT.nil) (BT.node (hd.o_240 P) (BT.node (hd.o_527 P) BT.nil BT.nil) BT.nil)) (BT.node (hd.o_144 P) (BT.node (hd.o_208 P) (BT.node (hd.o_495 P) BT.nil BT.nil) BT.nil) (BT.node (hd.o_367 P) (BT.node (hd.o_561 P) BT.nil BT.nil) BT.nil))) (BT.node (hd.o_94 P) (BT.node (hd.o_128 P) (BT.node (hd.o_192 P) (BT.node (hd.o_418 P) BT.nil BT.nil) BT.nil) (BT.node (hd.o_351 P) (BT.node (hd.o_543 P) BT.nil BT.nil) BT.nil)) (BT.node (hd.o_160 P) (BT.node (hd.o_224 P) (BT.node (hd.o_511 P) BT.nil BT.nil) BT.nil) (BT.node (hd.o_386 P) (BT.node (hd.o_577 P) BT.nil BT.nil) BT.nil)))) (BT.node (hd.o_66 P) (BT.node (hd.o_86 P) (BT.node (hd.o_120 P) (BT.node (hd.o_184 P) (BT.node (hd.o_410 P) BT.nil BT.nil) BT.nil) (BT.node (hd.o_343 P) (BT.node (hd.o_535 P) BT.nil BT.nil) BT.nil)) (BT.node (hd.o_152 P) (BT.node (hd.o_216 P) (BT.node (hd.o_503 P) BT.nil BT.nil) BT.nil) (BT.node (hd.o_378 P) (BT.node (hd.o_569 P) BT.nil BT.nil) BT.nil))) (BT.node (hd.o_102 P) (BT.node (hd.o_136 P) (BT.node (hd.o_200 P) (BT.node (hd.o_426 P) BT.nil BT.nil) BT.nil) (BT.node (hd.o_359 P) (BT.node (hd.o_553 P) BT.nil BT.nil) BT.nil)) (BT.node (hd.o_168 P) (BT.node (hd.o_232 P) (BT.node (hd.o_519 P) BT.nil BT.nil) BT.nil) (BT.node (hd.o_394 P) BT.nil BT.nil))))) (BT.node (hd.o_54 P) (BT.node (hd.o_62 P) (BT.node (hd.o_82 P) (BT.node (hd.o_116 P) (BT.node (hd.o_180 P) (BT.node (hd.o_406 P) BT.nil BT.nil) BT.nil) (BT.node (hd.o_244 P) (BT.node (hd.o_531 P) BT.nil BT.nil) BT.nil)) (BT.node (hd.o_148 P) (BT.node (hd.o_212 P) (BT.node (hd.o_499 P) BT.nil BT.nil) BT.nil) (BT.node (hd.o_374 P) (BT.node (hd.o_565 P) BT.nil BT.nil) BT.nil))) (BT.node (hd.o_98 P) (BT.node (hd.o_132 P) (BT.node (hd.o_196 P) (BT.node (hd.o_422 P) BT.nil BT.nil) BT.nil) (BT.node (hd.o_355 P) (BT.node (hd.o_549 P) BT.nil BT.nil) BT.nil)) (BT.node (hd.o_164 P) (BT.node (hd.o_228 P) (BT.node (hd.o_515 P) BT.nil BT.nil) BT.nil) (BT.node (hd.o_390 P) (BT.node (hd.o_581 P) BT.nil BT.nil) BT.nil)))) (BT.node (hd.o_548 P) (BT.node (hd.o_90 P) (BT.node (hd.o_124 P) (BT.node (hd.o_188 P) (BT.node (hd.o_414 P) BT.nil BT.nil) BT.nil) (BT.node (hd.o_347 P) (BT.node (hd.o_539 P) BT.nil BT.nil) BT.nil)) (BT.node (hd.o_156 P) (BT.node (hd.o_220 P) (BT.node (hd.o_507 P) BT.nil BT.nil) BT.nil) (BT.node (hd.o_382 P) (BT.node (hd.o_573 P) BT.nil BT.nil) BT.nil))) (BT.node (hd.o_106 P) (BT.node (hd.o_140 P) (BT.node (hd.o_204 P) (BT.node (hd.o_488 P) BT.nil BT.nil) BT.nil) (BT.node (hd.o_363 P) (BT.node (hd.o_557 P) BT.nil BT.nil) BT.nil)) (BT.node (hd.o_172 P) (BT.node (hd.o_236 P) (BT.node (hd.o_523 P) BT.nil BT.nil) BT.nil) (BT.node (hd.o_398 P) BT.nil BT.nil))))))) (BT.node (hd.o_492 P) (BT.node (hd.o_45 P) (BT.node (hd.o_49 P) (BT.node (hd.o_57 P) (BT.node (hd.o_77 P) (BT.node (hd.o_109 P) (BT.node (hd.o_175 P) (BT.node (hd.o_401 P) BT.nil BT.nil) BT.nil) (BT.node (hd.o_239 P) (BT.node (hd.o_526 P) BT.nil BT.nil) BT.nil)) (BT.node (hd.o_143 P) (BT.node (hd.o_207 P) (BT.node (hd.o_491 P) BT.nil BT.nil) BT.nil) (BT.node (hd.o_366 P) (BT.node (hd.o_560 P) BT.nil BT.nil) BT.nil))) (BT.node (hd.o_93 P) (BT.node (hd.o_127 P) (BT.node (hd.o_191 P) (BT.node (hd.o_417 P) BT.nil BT.nil) BT.nil) (BT.node (hd.o_350 P) (BT.node (hd.o_542 P) BT.nil BT.nil) BT.nil)) (BT.node (hd.o_159 P) (BT.node (hd.o_223 P) (BT.node (hd.o_510 P) BT.nil BT.nil) BT.nil) (BT.node (hd.o_385 P) (BT.node (hd.o_576 P) BT.nil BT.nil) BT.nil)))) (BT.node (hd.o_65 P) (BT.node (hd.o_85 P) (BT.node (hd.o_119 P) (BT.node (hd.o_183 P) (BT.node (hd.o_409 P) BT.nil BT.nil) BT.nil) (BT.node (hd.o_342 P) (BT.node (hd.o_534 P) BT.nil BT.nil) BT.nil)) (BT.node (hd.o_151 P) (BT.node (hd.o_215 P) (BT.node (hd.o_502 P) BT.nil BT.nil) BT.nil) (BT.node (hd.o_377 P) (BT.node (hd.o_568 P) BT.nil BT.nil) BT.nil))) (BT.node (hd.o_101 P) (BT.node (hd.o_135 P) (BT.node (hd.o_199 P) (BT.node (hd.o_425 P) BT.nil BT.nil) BT.nil) (BT.node (hd.o_358 P) (BT.node (hd.o_552 P) BT.nil BT.nil) BT.nil)) (BT.node (hd.o_167 P) (BT.node (hd.o_231 P) (BT.node (hd.o_518 P) BT.nil BT.nil) BT.nil) (BT.node (hd.o_393 P) BT.nil BT.nil))))) (BT.node (hd.o_53 P) (BT.node (hd.o_61 P) (BT.node (hd.o_81 P) (BT.node (hd.o_113 P) (BT.node (hd.o_179 P) (BT.node (hd.o_405 P) BT.nil BT.nil) BT.nil) (BT.node (hd.o_243 P) (BT.node (hd.o_530 P) BT.nil BT.nil) BT.nil)) (BT.node (hd.o_147 P) (BT.node (hd.o_211 P) (BT.node (hd.o_498 P) BT.nil BT.nil) BT.nil) (BT.node (hd.o_373 P) (BT.node (hd.o_564 P) BT.nil BT.nil) BT.nil))) (BT.node (hd.o_97 P) (BT.node (hd.o_131 P) (BT.node (hd.o_195 P) (BT.node (hd.o_421 P) BT.nil BT.nil) BT.nil) (BT.node (hd.o_354 P) (BT.node (hd.o_546 P) BT.nil BT.nil) BT.nil)) (BT.node (hd.o_163 P) (BT.node (hd.o_227 P) (BT.node (hd.o_514 P) BT.nil BT.nil) BT.nil) (BT.node (hd.o_389 P) (BT.node (hd.o_580 P) BT.nil BT.nil) BT.nil)))) (BT.node (hd.o_69 P) (BT.node (hd.o_89 P) (BT.node (hd.o_123 P) (BT.node (hd.o_187 P) (BT.node (hd.o_413 P) BT.nil BT.nil) BT.nil) (BT.node (hd.o_346 P) (BT.node (hd.o_538 P) BT.nil BT.nil) BT.nil)) (BT.node (hd.o_155 P) (BT.node (hd.o_219 P) (BT.node (hd.o_506 P) BT.nil BT.nil) BT.nil) (BT.node (hd.o_381 P) (BT.node (hd.o_572 P) BT.nil BT.nil) BT.nil))) (BT.node (hd.o_105 P) (BT.node (hd.o_139 P) (BT.node (hd.o_203 P) (BT.node (hd.o_487 P) BT.nil BT.nil) BT.nil) (BT.node (hd.o_362 P) (BT.node (hd.o_556 P) BT.nil BT.nil) BT.nil)) (BT.node (hd.o_171 P) (BT.node (hd.o_235 P) (BT.node (hd.o_522 P) BT.nil BT.nil) BT.nil) (BT.node (hd.o_397 P) BT.nil BT.nil)))))) (BT.node (hd.o_47 P) (BT.node (hd.o_51 P) (BT.node (hd.o_59 P) (BT.node (hd.o_79 P) (BT.node (hd.o_111 P) (BT.node (hd.o_177 P) (BT.node (hd.o_403 P) BT.nil BT.nil) BT.nil) (BT.node (hd.o_241 P) (BT.node (hd.o_528 P) BT.nil BT.nil) BT.nil)) (BT.node (hd.o_145 P) (BT.node (hd.o_209 P) (BT.node (hd.o_496 P) BT.nil BT.nil) BT.nil) (BT.node (hd.o_368 P) (BT.node (hd.o_562 P) BT.nil BT.nil) BT.nil))) (BT.node (hd.o_95 P) (BT.node (hd.o_129 P) (BT.node (hd.o_193 P) (BT.node (hd.o_419 P) BT.nil BT.nil) BT.nil) (BT.node (hd.o_352 P) (BT.node (hd.o_544 P) BT.nil BT.nil) BT.nil)) (BT.node (hd.o_161 P) (BT.node (hd.o_225 P) (BT.node (hd.o_512 P) BT.nil BT.nil) BT.nil) (BT.node (hd.o_387 P) (BT.node (hd.o_578 P) BT.nil BT.nil) BT.nil)))) (BT.node (hd.o_67 P) (BT.node (hd.o_87 P) (BT.node (hd.o_121 P) (BT.node (hd.o_185 P) (BT.node (hd.o_411 P) BT.nil BT.nil) BT.nil) (BT.node (hd.o_344 P) (BT.node (hd.o_536 P) BT.nil BT.nil) BT.nil)) (BT.node (hd.o_153 P) (BT.node (hd.o_217 P) (BT.node (hd.o_504 P) BT.nil BT.nil) BT.nil) (BT.node (hd.o_379 P) (BT.node (hd.o_570 P) BT.nil BT.nil) BT.nil))) (BT.node (hd.o_103 P) (BT.node (hd.o_137 P) (BT.node (hd.o_201 P) (BT.node (hd.o_485 P) BT.nil BT.nil) BT.nil) (BT.node (hd.o_360 P) (BT.node (hd.o_554 P) BT.nil BT.nil) BT.nil)) (BT.node (hd.o_169 P) (BT.node (hd.o_233 P) (BT.node (hd.o_520 P) BT.nil BT.nil) BT.nil) (BT.node (hd.o_395 P) BT.nil BT.nil))))) (BT.node (hd.o_55 P) (BT.node (hd.o_63 P) (BT.node (hd.o_83 P) (BT.node (hd.o_117 P) (BT.node (hd.o_181 P) (BT.node (hd.o_407 P) BT.nil BT.nil) BT.nil) (BT.node (hd.o_245 P) (BT.node (hd.o_532 P) BT.nil BT.nil) BT.nil)) (BT.node (hd.o_149 P) (BT.node (hd.o_213 P) (BT.node (hd.o_500 P) BT.nil BT.nil) BT.nil) (BT.node (hd.o_375 P) (BT.node (hd.o_566 P) BT.nil BT.nil) BT.nil))) (BT.node (hd.o_99 P) (BT.node (hd.o_133 P) (BT.node (hd.o_197 P) (BT.node (hd.o_423 P) BT.nil BT.nil) BT.nil) (BT.node (hd.o_356 P) (BT.node (hd.o_550 P) BT.nil BT.nil) BT.nil)) (BT.node (hd.o_165 P) (BT.node (hd.o_229 P) (BT.node (hd.o_516 P) BT.nil BT.nil) BT.nil) (BT.node (hd.o_391 P) BT.nil BT.nil)))) (BT.node (hd.o_71 P) (BT.node (hd.o_91 P) (BT.node (hd.o_125 P) (BT.node (hd.o_189 P) (BT.node (hd.o_415 P) BT.nil BT.nil) BT.nil) (BT.node (hd.o_348 P) (BT.node (hd.o_540 P) BT.nil BT.nil) BT.nil)) (BT.node (hd.o_157 P) (BT.node (hd.o_221 P) (BT.node (hd.o_508 P) BT.nil BT.nil) BT.nil) (BT.node (hd.o_383 P) (BT.node (hd.o_574 P) BT.nil BT.nil) BT.nil))) (BT.node (hd.o_107 P) (BT.node (hd.o_141 P) (BT.node (hd.o_205 P) (BT.node (hd.o_489 P) BT.nil BT.nil) BT.nil) (BT.node (hd.o_364 P) (BT.node (hd.o_558 P) BT.nil BT.nil) BT.nil)) (BT.node (hd.o_173 P) (BT.node (hd.o_237 P) (BT.node (hd.o_524 P) BT.nil BT.nil) BT.nil) (BT.node (hd.o_399 P) BT.nil BT.nil)))))))
noncomputable def hd.heap_582 : Params → Heap := fun P => { objs := { toList := [hd.o_41 P, hd.o_42 P, hd.o_492 P, hd.o_547 P, hd.o_45 P, hd.o_46 P, hd.o_47 P, hd.o_48 P, hd.o_49 P, hd.o_50 P, hd.o_51 P, hd.o_52 P, hd.o_53 P, hd.o_54 P, hd.o_55 P, hd.o_56 P, hd.o_57 P, hd.o_58 P, hd.o_59 P, hd.o_60 P, hd.o_61 P, hd.o_62 P, hd.o_63 P, hd.o_64 P, hd.o_65 P, hd.o_66 P, hd.o_67 P, hd.o_68 P, hd.o_69 P, hd.o_548 P, hd.o_71 P, hd.o_72 P, hd.o_77 P, hd.o_78 P, hd.o_79 P, hd.o_80 P, hd.o_81 P, hd.o_82 P, hd.o_83 P, hd.o_84 P, hd.o_85 P, hd.o_86 P, hd.o_87 P, hd.o_88 P, hd.o_89 P, hd.o_90 P, hd.o_91 P, hd.o_92 P, hd.o_93 P, hd.o_94 P, hd.o_95 P, hd.o_96 P, hd.o_97 P, hd.o_98 P, hd.o_99 P, hd.o_100 P, hd.o_101 P, hd.o_102 P, hd.o_103 P, hd.o_104 P, hd.o_105 P, hd.o_106 P, hd.o_107 P, hd.o_108 P, hd.o_109 P, hd.o_110 P, hd.o_111 P, hd.o_112 P, hd.o_113 P, hd.o_116 P, hd.o_117 P, hd.o_118 P, hd.o_119 P, hd.o_120 P, hd.o_121 P, hd.o_122 P, hd.o_123 P, hd.o_124 P, hd.o_125 P, hd.o_126 P, hd.o_127 P, hd.o_128 P, hd.o_129 P, hd.o_130 P, hd.o_131 P, hd.o_132 P, hd.o_133 P, hd.o_134 P, hd.o_135 P, hd.o_136 P, hd.o_137 P, hd.o_138 P, hd.o_139 P, hd.o_140 P, hd.o_141 P, hd.o_142 P, hd.o_143 P, hd.o_144 P, hd.o_145 P, hd.o_146 P, hd.o_147 P, hd.o_148 P, hd.o_149 P, hd.o_150 P, hd.o_151 P, hd.o_152 P, hd.o_153 P, hd.o_154 P, hd.o_155 P, hd.o_156 P, hd.o_157 P, hd.o_158 P, hd.o_159 P, hd.o_160 P, hd.o_161 P, hd.o_162 P, hd.o_163 P, hd.o_164 P, hd.o_165 P, hd.o_166 P, hd.o_167 P, hd.o_168 P, hd.o_169 P, hd.o_170 P, hd.o_171 P, hd.o_172 P, hd.o_173 P, hd.o_174 P, hd.o_175 P, hd.o_176 P, hd.o_177 P, hd.o_178 P, hd.o_179 P, hd.o_180 P, hd.o_181 P, hd.o_182 P, hd.o_183 P, hd.o_184 P, hd.o_185 P, hd.o_186 P, hd.o_187 P, hd.o_188 P, hd.o_189 P, hd.o_190 P, hd.o_191 P, hd.o_192 P, hd.o_193 P, hd.o_194 P, hd.o_195 P, hd.o_196 P, hd.o_197 P, hd.o_198 P, hd.o_199 P, hd.o_200 P, hd.o_201 P, hd.o_202 P, hd.o_203 P, hd.o_204 P, hd.o_205 P, hd.o_206 P, hd.o_207 P, hd.o_208 P, hd.o_209 P, hd.o_210 P, hd.o_211 P, hd.o_212 P, hd.o_213 P, hd.o_214 P, hd.o_215 P, hd.o_216 P, hd.o_217 P, hd.o_218 P, hd.o_219 P, hd.o_220 P, hd.o_221 P, hd.o_222 P, hd.o_223 P, hd.o_224 P, hd.o_225 P, hd.o_226 P, hd.o_227 P, hd.o_228 P, hd.o_229 P, hd.o_230 P, hd.o_231 P, hd.o_232 P, hd.o_233 P, hd.o_234 P, hd.o_235 P, hd.o_236 P, hd.o_237 P, hd.o_238 P, hd.o_239 P, hd.o_240 P, hd.o_241 P, hd.o_371 P, hd.o_243 P, hd.o_244 P, hd.o_245 P, hd.o_246 P, hd.o_342 P, hd.o_343 P, hd.o_344 P, hd.o_345 P, hd.o_346 P, hd.o_347 P, hd.o_348 P, hd.o_349 P, hd.o_350 P, hd.o_351 P, hd.o_352 P, hd.o_353 P, hd.o_354 P, hd.o_355 P, hd.o_356 P, hd.o_357 P, hd.o_358 P, hd.o_359 P, hd.o_360 P, hd.o_361 P, hd.o_362 P, hd.o_363 P, hd.o_364 P, hd.o_365 P, hd.o_366 P, hd.o_367 P, hd.o_368 P, hd.o_372 P, hd.o_373 P, hd.o_374 P, hd.o_375 P, hd.o_376 P, hd.o_377 P, hd.o_378 P, hd.o_379 P, hd.o_380 P, hd.o_381 P, hd.o_382 P, hd.o_383 P, hd.o_384 P, hd.o_385 P, hd.o_386 P, hd.o_387 P, hd.o_388 P, hd.o_389 P, hd.o_390 P, hd.o_391 P, hd.o_392 P, hd.o_393 P, hd.o_394 P, hd.o_395 P, hd.o_396 P, hd.o_397 P, hd.o_398 P, hd.o_399 P, hd.o_400 P, hd.o_401 P, hd.o_402 P, hd.o_403 P, hd.o_404 P, hd.o_405 P, hd.o_406 P, hd.o_407 P, hd.o_408 P, hd.o_409 P, hd.o_410 P, hd.o_411 P, hd.o_412 P, hd.o_413 P, hd.o_414 P, hd.o_415 P, hd.o_416 P, hd.o_417 P, hd.o_418 P, hd.o_419 P, hd.o_420 P, hd.o_421 P, hd.o_422 P, hd.o_423 P, hd.o_424 P, hd.o_425 P, hd.o_426 P, hd.o_485 P, hd.o_486 P, hd.o_487 P, hd.o_488 P, hd.o_489 P, hd.o_490 P, hd.o_491 P, hd.o_495 P, hd.o_496 P, hd.o_497 P, hd.o_498 P, hd.o_499 P, hd.o_500 P, hd.o_501 P, hd.o_502 P, hd.o_503 P, hd.o_504 P, hd.o_505 P, hd.o_506 P, hd.o_507 P, hd.o_508 P, hd.o_509 P, hd.o_510 P, hd.o_511 P, hd.o_512 P, hd.o_513 P, hd.o_514 P, hd.o_515 P, hd.o_516 P, hd.o_517 P, hd.o_518 P, hd.o_519 P, hd.o_520 P, hd.o_521 P, hd.o_522 P, hd.o_523 P, hd.o_524 P, hd.o_525 P, hd.o_526 P, hd.o_527 P, hd.o_528 P, hd.o_529 P, hd.o_530 P, hd.o_531 P, hd.o_532 P, hd.o_533 P, hd.o_534 P, hd.o_535 P, hd.o_536 P, hd.o_537 P, hd.o_538 P, hd.o_539 P, hd.o_540 P, hd.o_541 P, hd.o_542 P, hd.o_543 P, hd.o_544 P, hd.o_545 P, hd.o_546 P, hd.o_549 P, hd.o_550 P, hd.o_551 P, hd.o_552 P, hd.o_553 P, hd.o_554 P, hd.o_555 P, hd.o_556 P, hd.o_557 P, hd.o_558 P, hd.o_559 P, hd.o_560 P, hd.o_561 P, hd.o_562 P, hd.o_563 P, hd.o_564 P, hd.o_565 P, hd.o_566 P, hd.o_567 P, hd.o_568 P, hd.o_569 P, hd.o_570 P, hd.o_571 P, hd.o_572 P, hd.o_573 P, hd.o_574 P, hd.o_575 P, hd.o_576 P, hd.o_577 P, hd.o_578 P, hd.o_579 P, hd.o_580 P, hd.o_581 P] } }
noncomputable def hd.view_39 : Program := view pE [0, 1, 3, 4, 7, 8, 10, 12, 15, 18, 19, 21, 23, 24, 25, 26, 27]
noncomputable def hd.env_41 : Env := { scope := Module.scope (Program.main pE), locals := mainNs, globals := mainNs, cells := [], code := Value.ref 30, frame := some 31 }
noncomputable def hd.sts_75 : List Stmt := ((behindTheImports pE).drop 0).take 11
noncomputable def hd.sts_114 : List Stmt := ((behindTheImports pE).drop 11).take 1
noncomputable def hd.sts_340 : List Stmt := ((behindTheImports pE).drop 12).take 5
noncomputable def hd.sts_369 : List Stmt := ((behindTheImports pE).drop 17).take 1
noncomputable def hd.sts_483 : List Stmt := ((behindTheImports pE).drop 18).take 2
noncomputable def hd.sts_492 : List Stmt := ((behindTheImports pE).drop 20).take 1
noncomputable def hd.sts_547 : List Stmt := ((behindTheImports pE).drop 21).take 6
theorem p73 : ∀ (w : World), (fun os => topGo treeTable (OpenRow.toRowW (OpenLaw.row Challenge.rw_be0020_01)).1 w 28 (some (Value.ref 6)) 12 { heap := hd.heap_68 (World.params w), toks := 276, os := os } (topStub (OpenRow.toRowW (OpenLaw.row Challenge.rw_be0020_01)).1)) = fun os => some ({ heap := hd.heap_72 (World.params w), toks := 282, os := os }, { cur := denote treeTable (Code.body (behindTheImports (OpenRow.toRowW (OpenLaw.row Challenge.rw_be0020_01)).1) hd.env_41), code := Code.body (behindTheImports (OpenRow.toRowW (OpenLaw.row Challenge.rw_be0020_01)).1) hd.env_41, pos := ⟨0, 0, 0, 0⟩, stack := [topFrame ⟨0, 0, 0, 0⟩] }) := by
  rw [Fast.te15667345088766844465, Fast.te14364793385576792824, Fast.te2368527892694137696, Fast.te11892475500146522536]
  intro w
  kernel_rfl
theorem p75 : ∀ (w : World), (fun os => segRun treeTable (OpenRow.toRowW (OpenLaw.row Challenge.rw_be0020_01)).1 w 28 (some (Value.ref 6)) 1 1 { heap := hd.heap_72 (World.params w), toks := 282, os := os } (blockOf (behindTheImports (OpenRow.toRowW (OpenLaw.row Challenge.rw_be0020_01)).1) hd.env_41 (Code.body (behindTheImports (OpenRow.toRowW (OpenLaw.row Challenge.rw_be0020_01)).1) hd.env_41) ⟨0, 0, 0, 0⟩ [topFrame ⟨0, 0, 0, 0⟩])) = fun os => some (Flow.next, SharedT.abs { tree := hd.tree_73 (World.params w), n := 32, life := { }, gens := { toList := [] }, drawn := { }, toks := 282, os := os }, Code.body (behindTheImports (OpenRow.toRowW (OpenLaw.row Challenge.rw_be0020_01)).1) hd.env_41, ⟨0, 0, 0, 0⟩) := by
  rw [Fast.te14374325043358763698, Fast.te14364793385576792824, Fast.te2368527892694137696]
  intro w
  kernel_rfl
theorem p114 : ∀ w : World, (fun os => segRunT treeTable (OpenRow.toRowW (OpenLaw.row Challenge.rw_be0020_01)).1 w 28 (some (Value.ref 6)) 1 212 { tree := hd.tree_73 (World.params w), n := 32, life := { }, gens := #[], drawn := { }, toks := 282, os := os } (piecesOf hd.sts_75 hd.env_41 (Code.body (behindTheImports (OpenRow.toRowW (OpenLaw.row Challenge.rw_be0020_01)).1) hd.env_41) ⟨0, 0, 0, 0⟩ [topFrame ⟨0, 0, 0, 0⟩])) = fun os => some (Flow.next, { tree := hd.tree_113 (World.params w), n := 69, life := { }, gens := #[], drawn := { }, toks := 332, os := os }, (Code.body (behindTheImports (OpenRow.toRowW (OpenLaw.row Challenge.rw_be0020_01)).1) hd.env_41), ⟨39, 0, 39, 8⟩) := by
  rw [Fast.te10110043849684766642, Fast.te14364793385576792824, Fast.te2368527892694137696]
  intro w
  kernel_rfl
theorem p340 : ∀ w : World, (fun os => segRunT treeTable (OpenRow.toRowW (OpenLaw.row Challenge.rw_be0020_01)).1 w 28 (some (Value.ref 6)) 1 729 { tree := hd.tree_113 (World.params w), n := 69, life := { }, gens := #[], drawn := { }, toks := 332, os := os } (piecesOf hd.sts_114 hd.env_41 (Code.body (behindTheImports (OpenRow.toRowW (OpenLaw.row Challenge.rw_be0020_01)).1) hd.env_41) ⟨39, 0, 39, 8⟩ [topFrame ⟨0, 0, 0, 0⟩])) = fun os => some (Flow.next, { tree := hd.tree_246 (World.params w), n := 200, life := { }, gens := #[], drawn := { }, toks := 490, os := os }, (Code.body (behindTheImports (OpenRow.toRowW (OpenLaw.row Challenge.rw_be0020_01)).1) hd.env_41), ⟨40, 0, 101, 16⟩) := by
  rw [Fast.te10110043849684766642, Fast.te14364793385576792824, Fast.te2368527892694137696]
  intro w
  kernel_rfl
theorem p369 : ∀ w : World, (fun os => segRunT treeTable (OpenRow.toRowW (OpenLaw.row Challenge.rw_be0020_01)).1 w 28 (some (Value.ref 6)) 1 341 { tree := hd.tree_246 (World.params w), n := 200, life := { }, gens := #[], drawn := { }, toks := 490, os := os } (piecesOf hd.sts_340 hd.env_41 (Code.body (behindTheImports (OpenRow.toRowW (OpenLaw.row Challenge.rw_be0020_01)).1) hd.env_41) ⟨40, 0, 101, 16⟩ [topFrame ⟨0, 0, 0, 0⟩])) = fun os => some (Flow.next, { tree := hd.tree_368 (World.params w), n := 227, life := { }, gens := #[], drawn := { }, toks := 713, os := os }, (Code.body (behindTheImports (OpenRow.toRowW (OpenLaw.row Challenge.rw_be0020_01)).1) hd.env_41), ⟨115, 0, 116, 76⟩) := by
  rw [Fast.te10110043849684766642, Fast.te14364793385576792824, Fast.te2368527892694137696]
  intro w
  kernel_rfl
theorem p483 : ∀ w : World, (fun os => segRunT treeTable (OpenRow.toRowW (OpenLaw.row Challenge.rw_be0020_01)).1 w 28 (some (Value.ref 6)) 1 633 { tree := hd.tree_368 (World.params w), n := 227, life := { }, gens := #[], drawn := { }, toks := 713, os := os } (piecesOf hd.sts_369 hd.env_41 (Code.body (behindTheImports (OpenRow.toRowW (OpenLaw.row Challenge.rw_be0020_01)).1) hd.env_41) ⟨115, 0, 116, 76⟩ [topFrame ⟨0, 0, 0, 0⟩])) = fun os => some (Flow.next, { tree := hd.tree_426 (World.params w), n := 282, life := { }, gens := #[], drawn := { }, toks := 804, os := os }, (Code.body (behindTheImports (OpenRow.toRowW (OpenLaw.row Challenge.rw_be0020_01)).1) hd.env_41), ⟨117, 0, 158, 20⟩) := by
  rw [Fast.te10110043849684766642, Fast.te14364793385576792824, Fast.te2368527892694137696]
  refine byRow2 "special-get-raises" ?_ ?_
  · intro w
    kernel_rfl
  · intro w
    kernel_rfl
theorem p492 : ∀ w : World, (fun os => segRunT treeTable (OpenRow.toRowW (OpenLaw.row Challenge.rw_be0020_01)).1 w 28 (some (Value.ref 6)) 1 42 { tree := hd.tree_426 (World.params w), n := 282, life := { }, gens := #[], drawn := { }, toks := 804, os := os } (piecesOf hd.sts_483 hd.env_41 (Code.body (behindTheImports (OpenRow.toRowW (OpenLaw.row Challenge.rw_be0020_01)).1) hd.env_41) ⟨117, 0, 158, 20⟩ [topFrame ⟨0, 0, 0, 0⟩])) = fun os => some (Flow.next, { tree := hd.tree_491 (World.params w), n := 289, life := { }, gens := #[], drawn := { }, toks := 816, os := os }, (Code.body (behindTheImports (OpenRow.toRowW (OpenLaw.row Challenge.rw_be0020_01)).1) hd.env_41), ⟨165, 0, 165, 8⟩) := by
  rw [Fast.te10110043849684766642, Fast.te14364793385576792824, Fast.te2368527892694137696]
  intro w
  kernel_rfl
theorem p547 : ∀ w : World, (fun os => segRunT treeTable (OpenRow.toRowW (OpenLaw.row Challenge.rw_be0020_01)).1 w 28 (some (Value.ref 6)) 1 592 { tree := hd.tree_491 (World.params w), n := 289, life := { }, gens := #[], drawn := { }, toks := 816, os := os } (piecesOf hd.sts_492 hd.env_41 (Code.body (behindTheImports (OpenRow.toRowW (OpenLaw.row Challenge.rw_be0020_01)).1) hd.env_41) ⟨165, 0, 165, 8⟩ [topFrame ⟨0, 0, 0, 0⟩])) = fun os => some (Flow.next, { tree := hd.tree_546 (World.params w), n := 341, life := { }, gens := #[], drawn := { }, toks := 894, os := os }, (Code.body (behindTheImports (OpenRow.toRowW (OpenLaw.row Challenge.rw_be0020_01)).1) hd.env_41), ⟨166, 0, 186, 16⟩) := by
  rw [Fast.te10110043849684766642, Fast.te14364793385576792824, Fast.te2368527892694137696]
  intro w
  kernel_rfl
theorem p582 : ∀ w : World, (fun os => segRunT treeTable (OpenRow.toRowW (OpenLaw.row Challenge.rw_be0020_01)).1 w 28 (some (Value.ref 6)) 1 162 { tree := hd.tree_546 (World.params w), n := 341, life := { }, gens := #[], drawn := { }, toks := 894, os := os } (piecesOf hd.sts_547 hd.env_41 (Code.body (behindTheImports (OpenRow.toRowW (OpenLaw.row Challenge.rw_be0020_01)).1) hd.env_41) ⟨166, 0, 186, 16⟩ [topFrame ⟨0, 0, 0, 0⟩])) = fun os => some (Flow.next, { tree := hd.tree_581 (World.params w), n := 374, life := { }, gens := #[], drawn := { }, toks := 940, os := os }, (Code.body (behindTheImports (OpenRow.toRowW (OpenLaw.row Challenge.rw_be0020_01)).1) hd.env_41), ⟨222, 0, 249, 74⟩) := by
  rw [Fast.te10110043849684766642, Fast.te14364793385576792824, Fast.te2368527892694137696]
  intro w
  kernel_rfl
theorem p584 : ∀ (w : World), (fun os => topRun treeTable (OpenRow.toRowW (OpenLaw.row Challenge.rw_be0020_01)).1 w 28 (some (Value.ref 6)) 2 (SharedT.abs { tree := hd.tree_581 (World.params w), n := 374, life := { }, gens := { toList := [] }, drawn := { }, toks := 940, os := os }) { cur := doneF Flow.next, code := Code.body (behindTheImports (OpenRow.toRowW (OpenLaw.row Challenge.rw_be0020_01)).1) hd.env_41, pos := ⟨222, 0, 249, 74⟩, stack := [topFrame ⟨0, 0, 0, 0⟩] }) = fun os => some { heap := hd.heap_582 (World.params w), toks := 940, os := os } := by
  rw [Fast.te14082659384304107361, Fast.te14364793385576792824, Fast.te2368527892694137696]
  intro w
  kernel_rfl
theorem psts : hd.sts_75 ++ (hd.sts_114 ++ (hd.sts_340 ++ (hd.sts_369 ++ (hd.sts_483 ++ (hd.sts_492 ++ (hd.sts_547 ++ [])))))) = behindTheImports (OpenRow.toRowW (OpenLaw.row Challenge.rw_be0020_01)).1 := by kernel_rfl
theorem prun : ∀ (w : World) (os : OsState), topRun treeTable (OpenRow.toRowW (OpenLaw.row Challenge.rw_be0020_01)).1 w 28 (some (Value.ref 6)) (Nat.add 12 (Nat.add 1 (Nat.add 212 (Nat.add 729 (Nat.add 341 (Nat.add 633 (Nat.add 42 (Nat.add 592 (Nat.add 162 2))))))))) { heap := hd.heap_68 (World.params w), toks := 276, os := os } (topStub (OpenRow.toRowW (OpenLaw.row Challenge.rw_be0020_01)).1) = some { heap := hd.heap_582 (World.params w), toks := 940, os := os } := fun w os =>
  go_top (congrFun (p73 w) os) (piece_block (congrFun (p75 w) os) (by
    have k := piece_app (segRun_of (congrFun (p114 w) os)) (piece_app (segRun_of (congrFun (p340 w) os)) (piece_app (segRun_of (congrFun (p369 w) os)) (piece_app (segRun_of (congrFun (p483 w) os)) (piece_app (segRun_of (congrFun (p492 w) os)) (piece_app (segRun_of (congrFun (p547 w) os)) (piece_app (rest := []) (segRun_of (congrFun (p582 w) os)) (piece_nil (congrFun (p584 w) os))))))))
    rw [psts] at k
    exact k))
theorem popen : ∀ w : World, Option.map (fun s : Shared => (s.heap, s.gens, s.drawn, s.toks)) (fencedOpening treeTable (OpenRow.toRowW (OpenLaw.row Challenge.rw_be0020_01)).1 w 5534) = some (hd.heap_68 (World.params w), #[], {}, 276) := by
  rw [Fast.te14364793385576792824, Fast.te2368527892694137696]
  intro w
  kernel_rfl
theorem p656 : ∀ (w : World), (Heap.isNs (hd.heap_68 (World.params w)) mainGlobals && Array.size (#[] : Array GenState) == 0, Array.size (Heap.objs (hd.heap_68 (World.params w))), Heap.nsMap (hd.heap_68 (World.params w)) mainGlobals (Str.ofString "__annotations__")) = (true, 28, some (Value.ref 6)) := by
  rw [Fast.te8920871248978507458]
  intro w
  kernel_rfl
theorem p658 : ∀ (w : World), (fun os => staticsOk (importedModules (Module.body (Program.main (OpenRow.toRowW (OpenLaw.row Challenge.rw_be0020_01)).1))) (hd.heap_68 (World.params w)) (hd.heap_582 (World.params w)) && namesBound (OpenRow.toRowW (OpenLaw.row Challenge.rw_be0020_01)).1 (hd.heap_582 (World.params w)) && gensDone { heap := hd.heap_582 (World.params w), toks := 940, os := os } && laidKept (hd.heap_68 (World.params w)) (hd.heap_582 (World.params w))) = fun os => true := by
  rw [Fast.te5923862056798008813, Fast.te2368527892694137696]
  intro w
  kernel_rfl
theorem p660 : ∀ (w : World), (fun os => seen (List.map (fun x => DefRec.name x) (recsOf hd.view_39)) (ownsOf hd.view_39) [] { heap := Shared.heap { heap := hd.heap_582 (World.params w), toks := 940, os := os }, toks := Shared.toks { heap := hd.heap_582 (World.params w), toks := 940, os := os }, os := Shared.os { heap := hd.heap_582 (World.params w), toks := 940, os := os } }) = fun os => expectedOf hd.view_39 := by
  rw [Fast.te5160383126252970620, Fast.te3399658132070893891, Fast.te5991557255702980513]
  intro w
  kernel_rfl
theorem p662 : ∀ (w : World), (fun os => Heap.bltView (Shared.heap { heap := hd.heap_582 (World.params w), toks := 940, os := os })) = fun os => bltViewBooted := by
  intro w
  kernel_rfl
theorem p664 : ∀ (w : World), (fun os => Heap.keysOk (Shared.heap { heap := hd.heap_582 (World.params w), toks := 940, os := os }) (looseW hd.view_39 [Str.ofString "SEQUENCE_TYPES", Str.ofString "to_unicode", Str.ofString "CaselessDict", Str.ofString "param_value", Str.ofString "QUOTABLE", Str.ofString "dquote", Str.ofString "q_join", Str.ofString "Parameters", Str.ofString "vText"]) (List.map (fun x => DefRec.name x) (recsOf hd.view_39)) (List.map (fun x => Prod.fst x) (litsOf hd.view_39)) (List.map (fun x => ClsRec.name x) (clssOf hd.view_39 (looseW hd.view_39 [Str.ofString "SEQUENCE_TYPES", Str.ofString "to_unicode", Str.ofString "CaselessDict", Str.ofString "param_value", Str.ofString "QUOTABLE", Str.ofString "dquote", Str.ofString "q_join", Str.ofString "Parameters", Str.ofString "vText"]))) && Heap.accountedOkI (Shared.heap { heap := hd.heap_582 (World.params w), toks := 940, os := os }) (importedModules (Module.body (Program.main (OpenRow.toRowW (OpenLaw.row Challenge.rw_be0020_01)).1))) && Heap.isNs (Shared.heap { heap := hd.heap_582 (World.params w), toks := 940, os := os }) mainGlobals && Heap.isNs (Shared.heap { heap := hd.heap_582 (World.params w), toks := 940, os := os }) builtinsNs && tablesOk hd.view_39 (Shared.heap { heap := hd.heap_582 (World.params w), toks := 940, os := os }) && (fun s => xlAt hd.view_39 [] s && recOk (RowW.records (OpenRow.toRowW (OpenLaw.row Challenge.rw_be0020_01))) s) { heap := hd.heap_582 (World.params w), toks := 940, os := os } && if true = true then Array.size (Shared.gens { heap := hd.heap_582 (World.params w), toks := 940, os := os }) == 0 else !leftWithCleanup (Shared.gens { heap := hd.heap_582 (World.params w), toks := 940, os := os })) = fun os => true := by
  rw [Fast.te10880121769531294198, Fast.te821141287760084731, Fast.te3399658132070893891, Fast.te7409074990110511671, Fast.te13664370479719496447, Fast.te14722251495701143533, Fast.te5923862056798008813, Fast.te2368527892694137696, Fast.te10994771534591457954]
  intro w
  kernel_rfl
theorem p666 : ∀ (w : World), (fun os => tabsOk hd.view_39 { heap := hd.heap_582 (World.params w), toks := 940, os := os }) = fun os => true := by
  rw [Fast.te479339242167458305]
  intro w
  kernel_rfl
theorem p668 : ∀ (w : World), (fun os => pinSeenD hd.view_39 (drecsOf hd.view_39) { heap := hd.heap_582 (World.params w), toks := 940, os := os }) = fun os => pinGoodD (drecsOf hd.view_39) := by
  rw [Fast.te16090120013241838585, Fast.te3247288618530077131]
  intro w
  kernel_rfl
theorem p670 : ∀ (w : World), (fun os => plainSeenE hd.view_39 (looseW hd.view_39 [Str.ofString "SEQUENCE_TYPES", Str.ofString "to_unicode", Str.ofString "CaselessDict", Str.ofString "param_value", Str.ofString "QUOTABLE", Str.ofString "dquote", Str.ofString "q_join", Str.ofString "Parameters", Str.ofString "vText"]) { heap := hd.heap_582 (World.params w), toks := 940, os := os }) = fun os => plainGoodE hd.view_39 (looseW hd.view_39 [Str.ofString "SEQUENCE_TYPES", Str.ofString "to_unicode", Str.ofString "CaselessDict", Str.ofString "param_value", Str.ofString "QUOTABLE", Str.ofString "dquote", Str.ofString "q_join", Str.ofString "Parameters", Str.ofString "vText"]) := by
  rw [Fast.te2386780881361962483, Fast.te821141287760084731]
  intro w
  kernel_rfl
theorem p672 : ∀ (w : World), (fun os => plainSeenD hd.view_39 [Str.ofString "SEQUENCE_TYPES", Str.ofString "to_unicode", Str.ofString "CaselessDict", Str.ofString "param_value", Str.ofString "QUOTABLE", Str.ofString "dquote", Str.ofString "q_join", Str.ofString "Parameters", Str.ofString "vText"] { heap := hd.heap_582 (World.params w), toks := 940, os := os }) = fun os => plainGoodD hd.view_39 [Str.ofString "SEQUENCE_TYPES", Str.ofString "to_unicode", Str.ofString "CaselessDict", Str.ofString "param_value", Str.ofString "QUOTABLE", Str.ofString "dquote", Str.ofString "q_join", Str.ofString "Parameters", Str.ofString "vText"] := by
  rw [Fast.te11698064438423848299]
  intro w
  kernel_rfl
theorem p674 : ∀ (w : World), (fun os => wideSeen hd.view_39 { heap := hd.heap_582 (World.params w), toks := 940, os := os }) = fun os => wideGood hd.view_39 := by
  rw [Fast.te7317090234206586261]
  intro w
  kernel_rfl
theorem p676 : ∀ (w : World), (fun os => clsSeenW hd.view_39 [Str.ofString "SEQUENCE_TYPES", Str.ofString "to_unicode", Str.ofString "CaselessDict", Str.ofString "param_value", Str.ofString "QUOTABLE", Str.ofString "dquote", Str.ofString "q_join", Str.ofString "Parameters", Str.ofString "vText"] { heap := hd.heap_582 (World.params w), toks := 940, os := os }) = fun os => clsGoodW hd.view_39 [Str.ofString "SEQUENCE_TYPES", Str.ofString "to_unicode", Str.ofString "CaselessDict", Str.ofString "param_value", Str.ofString "QUOTABLE", Str.ofString "dquote", Str.ofString "q_join", Str.ofString "Parameters", Str.ofString "vText"] := by
  rw [Fast.te7369524293546568484]
  intro w
  kernel_rfl
noncomputable abbrev hk : Hook := kHook hd.heap_39 [2, 3, 32, 34, 35, 37, 38, 39, 40, 41, 43, 44, 46, 47, 48, 50, 51, 53, 54, 55, 57, 58, 60, 61, 62, 64, 65, 67, 68, 69, 72, 77, 78, 80, 81, 83, 84, 85, 86, 88, 89, 91, 92, 93, 94, 96, 97, 99, 100, 101, 102, 104, 105, 107, 108, 109, 110, 112, 113, 115, 116, 117, 118, 119, 121, 122, 124, 125, 126, 127, 128, 130, 131, 133, 134, 135, 136, 137, 139, 140, 142, 143, 144, 146, 147, 149, 150, 151, 153, 154, 156, 157, 158, 160, 161, 163, 164, 165, 167, 168, 170, 171, 172, 174, 175, 177, 178, 179, 181, 182, 184, 185, 186, 188, 189, 191, 192, 193, 194, 195, 196, 197, 200, 201, 204, 205, 209, 210, 211, 212, 214, 215, 217, 218, 219, 220, 222, 223, 225, 226, 227, 230, 235, 236, 239, 240, 241, 242, 243, 245, 246, 248, 249, 250, 251, 253, 254, 256, 257, 258, 259, 261, 262, 264, 265, 266, 267, 268, 269, 271, 272, 274, 275, 276, 277, 278, 279, 282, 284, 285, 287, 288, 289, 292, 297, 298, 299, 300, 302, 303, 305, 306, 307, 309, 310, 312, 313, 314, 316, 317, 319, 320, 321, 322, 323, 324, 326, 327, 329, 330, 331, 332, 334, 335, 336, 337, 338, 341, 343, 344, 346, 347, 348, 350, 351, 353, 354, 355, 357, 358, 360, 361, 362, 364, 365, 367, 368, 369, 372, 373] (fun _ => by kernel_rfl)
theorem p686 : ∀ w : World, (fun os => Hook.obs hk { heap := hd.heap_582 (World.params w), toks := 940, os := os }) = fun os => Hook.val hk w := by
  intro w
  kernel_rfl
noncomputable abbrev looseE : List Str := [Str.ofString "SEQUENCE_TYPES", Str.ofString "to_unicode", Str.ofString "CaselessDict", Str.ofString "param_value", Str.ofString "QUOTABLE", Str.ofString "dquote", Str.ofString "q_join", Str.ofString "Parameters", Str.ofString "vText"]
theorem left_ : LeftO (OpenRow.toRowW (OpenLaw.row Challenge.rw_be0020_01)).1 hd.view_39 looseE (fun s => xlAt hd.view_39 [] s && recOk (RowW.records (OpenRow.toRowW (OpenLaw.row Challenge.rw_be0020_01))) s) (Hook.obs hk) (Hook.val hk) 5534 :=
  LeftO.of_pieces (H₀ := hd.heap_68) (H₁ := hd.heap_582) (gs₀ := #[]) (gs₁ := #[]) (d₀ := {}) (d₁ := {}) (k₀ := 276) (k₁ := 940) (m₀ := 28) (ann := some (Value.ref 6)) popen p656 prun (by decide)
    fun w => funext fun os => looks_pair (congrFun (p658 w) os) (looks_pair (looks_pair (congrFun (p660 w) os) (looks_pair (congrFun (p662 w) os) (looks_pair (congrFun (p664 w) os) (looks_pair (congrFun (p666 w) os) (looks_pair (congrFun (p668 w) os) (looks_pair (congrFun (p670 w) os) (looks_pair (congrFun (p672 w) os) (looks_pair (congrFun (p674 w) os) (congrFun (p676 w) os))))))))) (congrFun (p686 w) os))
theorem fill_HdT : PySem.Challenge.rw_be0020_01 = PySem.Challenge.rw_be0020_01 ∧ hd.heap_39 = hd.heap_39 := by
  k_fill
  exact ⟨rfl, rfl⟩
section
noncomputable abbrev PG : Program := PySem.Challenge.rw_be0020_01.row.prog
noncomputable abbrev KK (w : World) : Frag := hd.heap_39 w.params
noncomputable abbrev looseL : List Str := looseW hd.view_39 [Str.ofString "SEQUENCE_TYPES", Str.ofString "to_unicode", Str.ofString "CaselessDict", Str.ofString "param_value",
  Str.ofString "QUOTABLE", Str.ofString "dquote", Str.ofString "q_join", Str.ofString "Parameters", Str.ofString "vText"]
abbrev TopC (mean : ExcName → Option Value) (mg mb : Str → Option Value) (h : Heap) : Prop := Top hd.view_39 looseL mean mg mb h


def LeaveP (h₀ : Heap) (L : Addr) (m : Str → Option Value) (news : List (Addr × Obj)) (g : Heap) (Q : Value → Shared → Prop) (v : Value) (s' : Shared) : Prop :=
  ∃ L' m' news', Fr g L' s'.heap m' ∧ News g L' s'.heap news' ∧ (Fr h₀ L s'.heap m → News h₀ L s'.heap (news' ++ news) → Q v s')
theorem leaveP_ {h₀ g : Heap} {L L' : Addr} {m m' : Str → Option Value} {news news' : List (Addr × Obj)} {Q : Value → Shared → Prop} {v : Value} {s' : Shared} (F' : Fr g L' s'.heap m') (N' : News g L' s'.heap news')
    (k : Fr h₀ L s'.heap m → News h₀ L s'.heap (news' ++ news) → Q v s') : LeaveP h₀ L m news g Q v s' := ⟨L', m', news', F', N', k⟩

/-- a call of a def that leaves all that stood as it stood, but for `hid` -/
theorem hidCall {prog : Program} {w : World} {dp un : Nat} {gd : Option (List Code)} {env : Env} {outer : List Env} {A₀ : Around} {base h₀ : Heap} {L : Addr} {m : Str → Option Value} {s : Shared} {Q E : Value → Shared → Prop} {K : Frag}
    {p : Program} {loose : List Str} {mean : ExcName → Option Value} {mg mb : Str → Option Value}
    {name qual : Str} {params : Arguments} {body : List Stmt} {scope : Scope} {dV kV doc pm cdv ct oc : Value} {an od : Option Addr} {osl : Array (Option Value)} {f : Addr} {vals : List Value} {binds : List (Str × Value)}
    (hid news : List (Addr × Obj))
    (B : Below A₀ base outer h₀) (F : Fr h₀ L s.heap m) (X : K.In h₀) (NH : News h₀ L s.heap hid) (N : News h₀ L s.heap news) (hap : ∀ p ∈ news, p.1 ∉ hid.map (·.1)) (T : Top p loose mean mg mb h₀) (hf : env.frame = some L) (hke : env.scope.kind = .function)
    (ho : K.lookup f = some ⟨oc, od, .func (fnOf name qual params body scope dV kV doc pm an cdv ct), osl⟩) (hcd : codeIn K cdv qual = true) (hroom : dp < recursionLimit)
    (hbind : BindsTo s (fnOf name qual params body scope dV kV doc pm an cdv ct) ⟨vals, []⟩ binds) (hloc : ∀ y ∈ binds, scope.names.lookup y.1 = some .local)
    (hcell : ∀ x ∈ scope.names, x.2 ≠ .cell) (hco : scope.isCoroutine = false) (hgen : scope.isGenerator = false) (hk : scope.kind = .function) {n : Nat} (hp : n ≤ s.toks)
    (h : ∀ g L' h₁ tk, n ≤ tk → Fr g L' h₁ (fun y => binds.reverse.lookup y) → News g L' h₁ hid → Below { handled := none, depth := dp, frames := some (env :: outer), guards := gd, units := un } base (env :: outer) g → K.In g → Top p loose mean mg mb g →
      (∀ b o, s.heap.get? b = some o → b ∉ hid.map (·.1) → g.get? b = some o) →
      wpAny (model prog w) (Around.deeper { handled := none, depth := dp, frames := some (env :: outer), guards := gd, units := un } (envOf qual scope L' f cdv)) (execs body (envOf qual scope L' f cdv))
        (fun fl s' => LeaveP h₀ L m news g Q (match fl with | .ret v => v | _ => .none) s') (fun _ _ => False)
        { s with heap := h₁, toks := tk }) :
    wpAny (model prog w) { handled := none, depth := dp, frames := some (env :: outer), guards := gd, units := un } (call (.ref f) vals) Q E s := by
  refine wpAny_call ?_
  obtain ⟨FG, BG, st, lv⟩ := groundX (R := fun r s' => match r with | .ok (.ret v) => Q v s' | .ok _ => False | .error e => E e s') (A := { handled := none, depth := dp, frames := some (env :: outer), guards := gd, units := un }) B F NH rfl hf hke
  refine codeAny_call_def (fd := fnOf name qual params body scope dV kV doc pm an cdv ct) (body := body) (binds := binds) hroom ((X.keeps F.keep) _ _ ho) rfl (T.nolimit.keeps F.keep) (codeRec_of (X.keeps F.keep) hcd) rfl hbind hcell hloc (fun h₁ hns hk₁ => ?_) hco hgen hk
  have hin : ∀ b o, s.heap.get? b = some o → b ∉ hid.map (·.1) → (hideAll s.heap (hid.map (·.1))).get? b = some o := fun b o e hn => hideAll_get _ e hn
  refine wpAny_mono (h _ s.heap.objs.size h₁ (s.toks + binds.length) (Nat.le_trans hp (Nat.le_add_right _ _)) ⟨hns, fun b o e => hk₁ b o (of_hideAll _ e), Nat.le_of_eq (hideAll_size _ _)⟩
    (fun p hp => ⟨hk₁ _ _ (NH p hp).1, Nat.ne_of_lt (Heap.lt_size (NH p hp).1), hideAll_none _ (List.mem_map_of_mem hp)⟩) BG (X.keeps st) (T.keeps st) hin) (fun fl s' hl => ?_) fun _ _ y => y.elim
  obtain ⟨L', m', news', F', N', k⟩ := hl
  refine lv _ _ ⟨L', m', news', F', N', fun F2 N2 => ?_⟩
  refine k F2 fun p hp => ?_
  rcases List.mem_append.mp hp with hp | hp
  · exact N2 p hp
  · exact ⟨F'.keep _ _ (hin _ _ (N p hp).1 (hap p hp)), (N p hp).2⟩

/-- a call of a def that leaves all that stood as it stood -/
theorem pureCall {prog : Program} {w : World} {dp un : Nat} {gd : Option (List Code)} {env : Env} {outer : List Env} {A₀ : Around} {base h₀ : Heap} {L : Addr} {m : Str → Option Value} {s : Shared} {Q E : Value → Shared → Prop} {K : Frag}
    {p : Program} {loose : List Str} {mean : ExcName → Option Value} {mg mb : Str → Option Value}
    {name qual : Str} {params : Arguments} {body : List Stmt} {scope : Scope} {dV kV doc pm cdv ct oc : Value} {an od : Option Addr} {osl : Array (Option Value)} {f : Addr} {vals : List Value} {binds : List (Str × Value)}
    (news : List (Addr × Obj))
    (B : Below A₀ base outer h₀) (F : Fr h₀ L s.heap m) (X : K.In h₀) (N : News h₀ L s.heap news) (T : Top p loose mean mg mb h₀) (hf : env.frame = some L) (hke : env.scope.kind = .function)
    (ho : K.lookup f = some ⟨oc, od, .func (fnOf name qual params body scope dV kV doc pm an cdv ct), osl⟩) (hcd : codeIn K cdv qual = true) (hroom : dp < recursionLimit)
    (hbind : BindsTo s (fnOf name qual params body scope dV kV doc pm an cdv ct) ⟨vals, []⟩ binds) (hloc : ∀ y ∈ binds, scope.names.lookup y.1 = some .local)
    (hcell : ∀ x ∈ scope.names, x.2 ≠ .cell) (hco : scope.isCoroutine = false) (hgen : scope.isGenerator = false) (hk : scope.kind = .function) {n : Nat} (hp : n ≤ s.toks)
    (h : ∀ g L' h₁ tk, n ≤ tk → Fr g L' h₁ (fun y => binds.reverse.lookup y) → News g L' h₁ [] → Below { handled := none, depth := dp, frames := some (env :: outer), guards := gd, units := un } base (env :: outer) g → K.In g → Top p loose mean mg mb g →
      (∀ b o, s.heap.get? b = some o → g.get? b = some o) →
      wpAny (model prog w) (Around.deeper { handled := none, depth := dp, frames := some (env :: outer), guards := gd, units := un } (envOf qual scope L' f cdv)) (execs body (envOf qual scope L' f cdv))
        (fun fl s' => LeaveP h₀ L m news g Q (match fl with | .ret v => v | _ => .none) s') (fun _ _ => False)
        { s with heap := h₁, toks := tk }) :
    wpAny (model prog w) { handled := none, depth := dp, frames := some (env :: outer), guards := gd, units := un } (call (.ref f) vals) Q E s :=
  hidCall [] news B F X News.nil N (fun _ _ h => nomatch h) T hf hke ho hcd hroom hbind hloc hcell hco hgen hk hp fun g L' h₁ tk htk F' N' B' X' T' hin => h g L' h₁ tk htk F' N' B' X' T' fun b o e => hin b o e (fun h => nomatch h)



theorem repl_len (x y z : Str) (hz : z.length ≤ 2) : (Txt.replace x y z).length ≤ 3 * x.length + 2 := by
  unfold Txt.replace
  split
  · omega
  · have h1 := StrLaws.occ_length_le x y 0 x.length (x.length + 1)
    have hy : (Builtin.Str.glued y (Builtin.Str.partsBetween x (Builtin.Str.occurrences x y 0 x.length (x.length + 1)) y.length)).length = x.length := by rw [StrLaws.glued_between_self]
    rw [size_glued, length_partsBetween, Nat.add_sub_cancel] at hy
    rw [size_glued, length_partsBetween, Nat.add_sub_cancel]
    have h2 : (Builtin.Str.occurrences x y 0 x.length (x.length + 1)).length * z.length ≤ (x.length + 1) * 2 := Nat.mul_le_mul h1 hz
    omega

theorem replN {prog : Program} {w : World} {A : Around} {E : Value → Shared → Prop} {s : Shared} {x y z : Str} {t u v : Tok} {Q : Value → Shared → Prop} (hp : 1 ≤ s.toks) (hu : u ≠ 0) (hv : v ≠ 0) (huv : u ≠ v) (hyz : (y == z) = false) (hx : x.length ≤ 1048576) (hz : z.length ≤ 2)
    (hq : ∀ t' k r, 1 ≤ k → r = Txt.replace x y z → r.length ≤ 3 * x.length + 2 → Q (.str r t') { s with toks := k }) : wpAny (model prog w) A (call (.builtin "str.replace") [.str x t, .str y u, .str z v]) Q E s :=
  wpAny_mono (wpAny_toks_of (n := 1) (Q := fun v s' => 1 ≤ s'.toks → Q v s') (E := E) hp (SC.replaceW hu hv huv hyz hx (by omega) fun t' k hk => hq t' k _ hk rfl (repl_len x y z hz))) (fun _ _ x => x.2 x.1) (fun _ _ x => x.2)

def TokOk (n : Nat) (P : Prop) : Prop := 1 ≤ n → P
theorem execs_consT {M : Model} {A : Around} {E : Value → Shared → Prop} {s : Shared} {env : Env} {st : Stmt} {rest : List Stmt} {Q : Flow → Shared → Prop} (hp : 1 ≤ s.toks)
    (h : wpAny M A (exec st env) (fun f s' => TokOk s'.toks (match f with | .next => wpAny M A (execs rest env) Q E s' | f => Q f s')) E s) : wpAny M A (execs (st :: rest) env) Q E s :=
  wpAny_execs_cons (wpAny_mono (wpAny_toks_of hp h) (fun _ _ x => x.2 x.1) (fun _ _ x => x.2))

def Stop (P : Prop) : Prop := P
theorem stop_ {P : Prop} (h : Stop P) : P := h
theorem go_ {P : Prop} (h : P) : Stop P := h

section
variable {prog : Program} {w : World} {A : Around} {E : Value → Shared → Prop} {s : Shared} {env : Env} {h₀ : Heap} {x : Str} {body : List Stmt} {Q : Flow → Shared → Prop}
/-- a loop over a range, its state said by J -/
theorem iter_rangeN {r : Addr} {a₀ b₀ : Int} {t₀ u₀ v₀ : Tok} {n : Nat} {m₀ : Str → Option Value} {news : List (Addr × Obj)} (J : Nat → (Str → Option Value) → List (Addr × Obj) → Prop)
    (hh : A.handled = none) (hr : IsRange s.heap r a₀ b₀ 1 t₀ u₀ v₀) (hsmall : Builtin.Range.small a₀ b₀ 1 = true) (hn : Builtin.Range.rangeSize a₀ b₀ 1 = (n : Int)) (F : Fr h₀ env.locals s.heap m₀) (N : News h₀ env.locals s.heap news) (hj : J 0 m₀ news)
    (turn : ∀ (i : Nat) t m₁ news₁ h tk own, i < n → news₁.map (·.1) = news.map (·.1) → OwnOff own (news.map (·.1)) → J i m₁ news₁ → Fr h₀ env.locals h (fun y => if y = x then some (.int (a₀ + i) t) else m₁ y) → News h₀ env.locals h (news₁ ++ own) →
      wpAny (model prog w) A (execs body env) (InvPostN h₀ env.locals (J (i + 1)) own (news.map (·.1)) { s with heap := h, toks := tk } Q) E { s with heap := h, toks := tk })
    (done : ∀ m₁ news₁ h tk, J n m₁ news₁ → Fr h₀ env.locals h m₁ → News h₀ env.locals h news₁ → Q .next { s with heap := h, toks := tk }) :
    wpAny (model prog w) A (pyIter (.ref r)) (fun it s₂ => LoopAtV prog w A h₀ env x body Q E it s₂) E s := by
  refine wpAny_pyIter_range hr hsmall ?_
  have W : Walks prog w A s.heap.objs.size [s.heap.objs.size] [s.heap.objs.size] n (fun i v => i < n ∧ ∃ t, v = .int (a₀ + i * 1) t)
      (fun i h => IsRangeIter h s.heap.objs.size (a₀ + (i : Nat) * 1) ((n : Int) - (i : Nat)) 1) := (Walks.range hh _ a₀ 1 n).bound
  refine loop_invN J W ?_ ?_ ?_ ?_ (by show IsRangeIter _ _ _ _ _; rw [hn]; simpa using Heap.get?_push_size _ rfl) (F.push _) (fun p hp => ⟨Heap.get?_push_of_some _ (N p hp).1, (N p hp).2⟩) hj ?_ ?_
  · intro hm
    exact absurd F.ns.lt ((List.mem_singleton.mp hm) ▸ Nat.lt_irrefl _)
  · intro b hb
    rw [List.mem_singleton.mp hb]
    exact next_is_new F
  · intro p hp hI
    exact absurd (Heap.lt_size (N p hp).1) ((List.mem_singleton.mp hI) ▸ Nat.lt_irrefl _)
  · intro p hp hI
    exact absurd (Heap.lt_size (N p hp).1) ((List.mem_singleton.mp hI) ▸ Nat.lt_irrefl _)
  · rintro i v m₁ nx h tk own hi ⟨_, t, rfl⟩ ha hoff hJ F₁ N₁
    have e1 : a₀ + (i : Int) * 1 = a₀ + (i : Int) := by omega
    rw [e1] at F₁
    exact turn i t m₁ nx h tk own hi ha hoff hJ F₁ N₁
  · rintro m₁ nx h tk hJ F₁ N₁
    exact done m₁ nx h tk hJ F₁ N₁
end

/-- a frame told by some of its names -/
def allIn (m : Str → Option Value) : List (Str × Value) → Prop
  | [] => True
  | p :: r => m p.1 = some p.2 ∧ allIn m r
theorem allIn_mem {m : Str → Option Value} : ∀ {ps : List (Str × Value)}, allIn m ps → ∀ p ∈ ps, m p.1 = some p.2
  | _ :: _, h, _, .head _ => h.1
  | _ :: _, h, _, .tail _ hp => allIn_mem h.2 _ hp
theorem frCanon {h₀ h : Heap} {L : Addr} {m : Str → Option Value} (F : Fr h₀ L h m) (ps : List (Str × Value)) (hp : allIn m ps) : Fr h₀ L h (kstB m ps) := by
  have e : kstB m ps = m := funext fun z => kstB_eq (allIn_mem hp) fun _ => rfl
  rw [e]
  exact F
theorem apart_of {h₀ h g : Heap} {L L' b : Addr} {h' : Heap} {o : Obj} {news nx : List (Addr × Obj)} (N : News h₀ L h news) (hin : ∀ b o, h.get? b = some o → g.get? b = some o) (N' : News g L' h' nx) (hb : (b, o) ∈ nx) : ∀ p ∈ news, p.1 ≠ b := fun p hp e => by
  have h1 := hin _ _ (N p hp).1
  rw [e, (N' _ hb).2.2] at h1
  cases h1

theorem item_any {prog : Program} {w : World} {A : Around} {E : Value → Shared → Prop} {s : Shared} {value slice : Expr} {P : Addr} {vs : List Value} {k : Int} {u : Tok} {Q : Value → Shared → Prop} (hl : s.heap.IsList P vs.toArray) (h0 : 0 ≤ k) (hk : k < vs.length) (hlen : vs.length < 2 ^ 62)
    (h : ∀ v, vs[k.toNat]? = some v → Q v s)
    (hs : subscripted slice false (.ref P) (.int k u) = operate [.ref P, .int k u] (getItem (.ref P) (.int k u)) := by with_unfolding_all rfl) : wpAny (model prog w) A (subscriptTail value slice (.ref P) (.int k u)) Q E s := by
  have hlt : k.toNat < vs.length := by omega
  have hx : vs[k.toNat]? = some vs[k.toNat] := List.getElem?_eq_getElem hlt
  exact tail_any hl.typeIs slot_list_getitem.lookup (wpAny_getItem_list hl h0 (by omega) (by simpa using hx) (h _ hx)) hs

theorem range_up (k : Nat) : Builtin.Range.rangeSize 0 (k : Int) 1 = (k : Int) := by
  unfold Builtin.Range.rangeSize
  rw [if_pos (by decide)]
  by_cases h : (0 : Int) < k
  · rw [if_pos h, Int.ediv_one]; omega
  · rw [if_neg h]; omega
theorem range_fits (i : Int) (h0 : 0 ≤ i) (h1 : i < 1000000) : Builtin.Range.rangeFitsLong i = true := by
  unfold Builtin.Range.rangeFitsLong
  have e : (2 : Int) ^ 63 = 9223372036854775808 := by decide
  rw [Bool.and_eq_true]
  exact ⟨decide_eq_true (by omega), decide_eq_true (by omega)⟩
theorem range_small (k : Nat) (hk : k < 1000000) : Builtin.Range.small 0 (k : Int) 1 = true := by
  unfold Builtin.Range.small
  rw [range_up, range_fits 0 (by decide) (by decide), range_fits 1 (by decide) (by decide), range_fits (k : Int) (by omega) (by omega), if_pos (by decide), range_fits ((k : Int) + (1 - 1)) (by omega) (by omega)]
  simp

theorem wend {h₀ : Heap} {L : Addr} {s : Shared} {J : Nat → (Str → Option Value) → List (Addr × Obj) → Prop} {Q : Flow → Shared → Prop} {n : Nat} {h' : Heap} {tk : Nat} {m₂ : Str → Option Value} {news₂ : List (Addr × Obj)} (n' : Nat)
    (F : Fr h₀ L h' m₂) (N : News h₀ L h' news₂) (hn : n' < n) (hJ : J n' m₂ news₂) : WhileStep2 h₀ L s J Q n .next { s with heap := h', toks := tk } := ⟨h', tk, m₂, news₂, n', rfl, F, N, hn, hJ⟩

theorem append_hd {prog : Program} {w : World} {A : Around} {E : Value → Shared → Prop} {s : Shared} {h₀ : Heap} {L D : Addr} {m : Str → Option Value} {ys : List Value} {n : Nat} {v : Value} {rest : List (Addr × Obj)} {Q : Value → Shared → Prop}
    (F : Fr h₀ L s.heap m) (N : News h₀ L s.heap ((D, listOf ys.toArray n) :: rest)) (hap : ∀ p ∈ rest, p.1 ≠ D) (hsz : ys.length ≤ 100000)
    (h : ∀ h', Fr h₀ L h' m → News h₀ L h' ((D, listOf (ys ++ [v]).toArray (n + 1)) :: rest) → Q .none { s with heap := h' }) : wpAny (model prog w) A (call (.builtin "list.append") [.ref D, v]) Q E s :=
  append_in (own := []) F N (fun _ h => nomatch h) hap h (by rw [sizeLine_eq]; omega)

theorem execs_join {M : Model} {A : Around} {E : Value → Shared → Prop} {s : Shared} {env : Env} {st : Stmt} {rest : List Stmt} {Q : Flow → Shared → Prop} (P : Shared → Prop) (hp : 1 ≤ s.toks)
    (hrest : ∀ s', P s' → wpAny M A (execs rest env) Q E s')
    (h : wpAny M A (exec st env) (fun f s' => TokOk s'.toks (match f with | .next => Stop (P s') | f => Q f s')) E s) : wpAny M A (execs (st :: rest) env) Q E s := by
  refine execs_consT hp (wpAny_mono h (fun f s' hf ht => ?_) fun _ _ x => x)
  cases f with
  | next => exact hrest _ (hf ht)
  | brk => exact hf ht
  | cont => exact hf ht
  | ret v => exact hf ht
end
section
theorem off_Esc : True := by
  w_top off
  exact trivial
local macro_rules | `(tactic| walk_at "p_enter") => `(tactic| (k_dflt (refine' pureCall _ ?k1 ?k2 ?k3 ?k4 ?k5 ?kF ?kK ?k6 ?k7 ?k8 ?k9 ?kB ?c5 ?c2 ?c3 ?c4 ?cp ?_; (case cp => first | assumption | ((try dsimp only); omega)); (case kF => exact rfl); (case kK => first | assumption | exact rfl); (case k1 => k_asm); (case k2 => k_asm); (case k3 => k_asm); (case k4 => k_asm); (case k5 => k_asm); (case k6 => k_is); (case k7 => k_is); (case k8 => ktr_room); (case k9 => first | exact BindsTo.of_eq rfl | exact binds_K (by k_in) rfl (by k_is) rfl rfl rfl); (case c5 => decide); (case kB => exact locs rfl); (case c2 => exact rfl); (case c3 => exact rfl); (case c4 => exact rfl); k_whole; intro g' L' h' tk' htk' F' N' B' X' T' hin'; (try dsimp only); (try k_fold))))
local macro_rules | `(tactic| walk_at "h_enter") => `(tactic| (k_dflt ((case cp => first | assumption | ((try dsimp only); omega)); (case k1 => k_asm); (case k2 => k_asm); (case k3 => k_asm); (case kF => exact rfl); (case kK => first | assumption | exact rfl); (case k5 => k_asm); (case k6 => k_is); (case k7 => k_is); (case k8 => ktr_room); (case k9 => first | exact BindsTo.of_eq rfl | exact binds_K (by k_in) rfl (by k_is) rfl rfl rfl); (case c5 => decide); (case kB => exact locs rfl); (case c2 => exact rfl); (case c3 => exact rfl); (case c4 => exact rfl); k_whole; intro g' L' h' tk' htk' F' N' B' X' T' hin'; (try dsimp only); (try k_fold))))
local macro_rules | `(tactic| walk_at "execs cons") => `(tactic| (k_here; (with_reducible refine wpAny_execs_cons ?_); try dsimp only))
local macro_rules | `(tactic| walk_at "execs cons") => `(tactic| (k_here; (with_reducible refine execs_consT ?hp ?_); (case hp => ((try dsimp only); omega)); try dsimp only))
local macro_rules | `(tactic| walk_at "TokOk") => `(tactic| (intro hpT; (try dsimp only at hpT); (try dsimp only)))
local macro_rules | `(tactic| walk_at "call builtin:str.replace") => `(tactic| ((with_reducible show wpAny _ _ (call (Value.builtin "str.replace") [Value.str _ _, Value.str _ _, Value.str _ _]) _ _ _); (refine replN ?k0 ?k1 ?k2 ?k3 ?k4 ?k5 ?k6 ?_; (case k0 => (try dsimp only); omega); (case k1 => show @Ne Nat _ _; omega); (case k2 => show @Ne Nat _ _; omega); (case k3 => show @Ne Nat _ _; omega); (case k4 => decide); (case k5 => omega); (case k6 => decide)); intro _ _ _ _ _ _; (try dsimp only)))
local macro_rules | `(tactic| walk_at "exec For Name Subscript cons nil") => `(tactic| (k_here; refine stop_ ?_))
local macro_rules | `(tactic| walk_at "exec For Name Call cons nil") => `(tactic| (k_here; refine stop_ ?_))
local macro_rules | `(tactic| walk_at "exec While Compare cons nil") => `(tactic| (k_here; refine stop_ ?_))
local macro_rules | `(tactic| walk_at "exec While BoolOp cons nil") => `(tactic| (k_here; refine stop_ ?_))
local macro_rules | `(tactic| walk_at "call ref") => `(tactic| (k_here; refine stop_ ?_))
local macro_rules | `(tactic| walk_at "call ref cons nil") => `(tactic| (k_here; refine stop_ ?_))
local macro_rules | `(tactic| walk_at "call ref nil nil") => `(tactic| (k_here; refine stop_ ?_))
local macro_rules | `(tactic| walk_at "pyIter ref") => `(tactic| (k_here; refine stop_ ?_))
local macro_rules | `(tactic| walk_at "subscriptTail Name Call ref int") => `(tactic| (k_here; refine stop_ ?_))
local macro_rules | `(tactic| walk_at "InvPostN") => `(tactic| (refine stop_ ?_))
local macro_rules | `(tactic| walk_at "InvPostN next") => `(tactic| (refine stop_ ?_))
local macro_rules | `(tactic| walk_at "InvPostN cont") => `(tactic| (refine stop_ ?_))
local macro_rules | `(tactic| walk_at "InvEndN") => `(tactic| (refine stop_ ?_))
local macro_rules | `(tactic| walk_at "CompSrc") => `(tactic| (refine stop_ ?_))
local macro_rules | `(tactic| walk_at "CompSrc ref") => `(tactic| (refine stop_ ?_))
section
variable {w : World} {mean : ExcName → Option Value} {mg mb : Str → Option Value} {dp un : Nat} {gd : Option (List Code)} {cn : Str} {cs : Scope} {a : Addr} {ccd : Value} {cl : List (Str × Addr)} {outer : List Env} {A₀ : Around} {base h₀ : Heap} {L : Addr} {m : Str → Option Value} {s : Shared} {Q E : Value → Shared → Prop} {news : List (Addr × Obj)}

theorem toUni_call
   (x : Str) (t : Tok) (B : Below A₀ base outer h₀) (F : Fr h₀ L s.heap m) (X : (hd.heap_39 w.params).In h₀) (N : News h₀ L s.heap news) (T : TopC mean mg mb h₀) (hk : cs.kind = .function) (hd : dp + 10 < recursionLimit) (hu : un + 80 < cLine) (hp : 1 ≤ s.toks)
   (h : ∀ h' tk', 1 ≤ tk' → Fr h₀ L h' m → News h₀ L h' news → Q (.str x t) { s with heap := h', toks := tk' }) :
   wpAny (model PG w) (ktrTop dp un gd cn cs L a ccd cl outer) (call (.ref 47) [.str x t] []) Q E s := by
  refine wpAny_with_toks (n := 1) hp ?_
  walk_at "p_enter"
  k_steps
  refine leaveP_ (by k_asm) (by k_asm) (fun kF kN hp' => ?_)
  exact h _ _ hp' kF kN

/-- what _escape_char makes of a text -/
def escT (x : Str) : Str :=
  Txt.replace (Txt.replace (Txt.replace (Txt.replace (Txt.replace (Txt.replace (Txt.replace x "\\N" "\n") "\\" "\\\\") ";" "\\;") "," "\\,") "\r\n" "\\n") "\n" "\\n") "\r" "\\n"
def unescT (x : Str) : Str :=
  Txt.replace (Txt.replace (Txt.replace (Txt.replace (Txt.replace (Txt.replace x "\\N" "\\n") "\r\n" "\n") "\\n" "\n") "\\," ",") "\\;" ";") "\\\\" "\\"

theorem escape_call
   (x : Str) (t : Tok) (B : Below A₀ base outer h₀) (F : Fr h₀ L s.heap m) (X : (hd.heap_39 w.params).In h₀) (N : News h₀ L s.heap news) (T : TopC mean mg mb h₀) (hk : cs.kind = .function) (hd : dp + 20 < recursionLimit) (hu : un + 160 < cLine) (hx : x.length ≤ 200) (hp : 1 ≤ s.toks)
   (h : ∀ t' h' tk', 1 ≤ tk' → Fr h₀ L h' m → News h₀ L h' news → Q (.str (escT x) t') { s with heap := h', toks := tk' }) :
   wpAny (model PG w) (ktrTop dp un gd cn cs L a ccd cl outer) (call (.ref 54) [.str x t] []) Q E s := by
  refine wpAny_with_toks (n := 1) hp ?_
  walk_at "p_enter"
  k_steps
  refine go_ ?_
  refine toUni_call (outer := _ :: outer) _ _ (by k_asm) (by k_asm) (by k_asm) (by k_asm) (by k_asm) (by rfl) (by ktr_room) (by ktr_units) (by (try dsimp only); omega) (fun h9 tk9 hp9 F9 N9 => ?_)
  (try k_fold)
  k_steps
  refine leaveP_ (by k_asm) (by k_asm) (fun kF kN hp' => ?_)
  subst_vars
  exact h _ _ _ hp' kF (fun p hp => kN p (List.mem_append_right _ hp))

theorem unescape_call
   (x : Str) (t : Tok) (B : Below A₀ base outer h₀) (F : Fr h₀ L s.heap m) (X : (hd.heap_39 w.params).In h₀) (N : News h₀ L s.heap news) (T : TopC mean mg mb h₀) (hk : cs.kind = .function) (hd : dp + 20 < recursionLimit) (hu : un + 160 < cLine) (hx : x.length ≤ 200) (hp : 1 ≤ s.toks)
   (h : ∀ t' h' tk', 1 ≤ tk' → Fr h₀ L h' m → News h₀ L h' news → Q (.str (unescT x) t') { s with heap := h', toks := tk' }) :
   wpAny (model PG w) (ktrTop dp un gd cn cs L a ccd cl outer) (call (.ref 61) [.str x t] []) Q E s := by
  refine wpAny_with_toks (n := 1) hp ?_
  walk_at "p_enter"
  k_steps
  refine leaveP_ (by k_asm) (by k_asm) (fun kF kN hp' => ?_)
  subst_vars
  exact h _ _ _ hp' kF (fun p hp => kN p (List.mem_append_right _ hp))
end
end
section
theorem off_Draw : True := by
  w_top off
  exact trivial
local macro_rules | `(tactic| walk_at "no step") => `(tactic| fail)
local macro_rules | `(tactic| walk_at "p_enter") => `(tactic| (k_dflt (refine' pureCall _ ?k1 ?k2 ?k3 ?k4 ?k5 ?kF ?kK ?k6 ?k7 ?k8 ?k9 ?kB ?c5 ?c2 ?c3 ?c4 ?cp ?_; (case cp => first | assumption | ((try dsimp only); omega)); (case kF => exact rfl); (case kK => first | assumption | exact rfl); (case k1 => k_asm); (case k2 => k_asm); (case k3 => k_asm); (case k4 => k_asm); (case k5 => k_asm); (case k6 => k_is); (case k7 => k_is); (case k8 => ktr_room); (case k9 => first | exact BindsTo.of_eq rfl | exact binds_K (by k_in) rfl (by k_is) rfl rfl rfl); (case c5 => decide); (case kB => exact locs rfl); (case c2 => exact rfl); (case c3 => exact rfl); (case c4 => exact rfl); k_whole; intro g' L' h' tk' htk' F' N' B' X' T' hin'; (try dsimp only); (try k_fold))))
local macro_rules | `(tactic| walk_at "h_enter") => `(tactic| (k_dflt ((case cp => first | assumption | ((try dsimp only); omega)); (case k1 => k_asm); (case k2 => k_asm); (case k3 => k_asm); (case kF => exact rfl); (case kK => first | assumption | exact rfl); (case k5 => k_asm); (case k6 => k_is); (case k7 => k_is); (case k8 => ktr_room); (case k9 => first | exact BindsTo.of_eq rfl | exact binds_K (by k_in) rfl (by k_is) rfl rfl rfl); (case c5 => decide); (case kB => exact locs rfl); (case c2 => exact rfl); (case c3 => exact rfl); (case c4 => exact rfl); k_whole; intro g' L' h' tk' htk' F' N' B' X' T' hin'; (try dsimp only); (try k_fold))))
local macro_rules | `(tactic| walk_at "execs cons") => `(tactic| (k_here; (with_reducible refine wpAny_execs_cons ?_); try dsimp only))
local macro_rules | `(tactic| walk_at "execs cons") => `(tactic| (k_here; (with_reducible refine execs_consT ?hp ?_); (case hp => ((try dsimp only); omega)); try dsimp only))
local macro_rules | `(tactic| walk_at "TokOk") => `(tactic| (intro hpT; (try dsimp only at hpT); (try dsimp only)))
local macro_rules | `(tactic| walk_at "call builtin:str.replace") => `(tactic| ((with_reducible show wpAny _ _ (call (Value.builtin "str.replace") [Value.str _ _, Value.str _ _, Value.str _ _]) _ _ _); (refine replN ?k0 ?k1 ?k2 ?k3 ?k4 ?k5 ?k6 ?_; (case k0 => (try dsimp only); omega); (case k1 => show @Ne Nat _ _; omega); (case k2 => show @Ne Nat _ _; omega); (case k3 => show @Ne Nat _ _; omega); (case k4 => decide); (case k5 => omega); (case k6 => decide)); intro _ _ _ _ _ _; (try dsimp only)))
local macro_rules | `(tactic| walk_at "exec For Name Subscript cons nil") => `(tactic| (k_here; refine stop_ ?_))
local macro_rules | `(tactic| walk_at "exec For Name Call cons nil") => `(tactic| (k_here; refine stop_ ?_))
local macro_rules | `(tactic| walk_at "exec While Compare cons nil") => `(tactic| (k_here; refine stop_ ?_))
local macro_rules | `(tactic| walk_at "exec While BoolOp cons nil") => `(tactic| (k_here; refine stop_ ?_))
local macro_rules | `(tactic| walk_at "call ref") => `(tactic| (k_here; refine stop_ ?_))
local macro_rules | `(tactic| walk_at "call ref cons nil") => `(tactic| (k_here; refine stop_ ?_))
local macro_rules | `(tactic| walk_at "call ref nil nil") => `(tactic| (k_here; refine stop_ ?_))
local macro_rules | `(tactic| walk_at "pyIter ref") => `(tactic| (k_here; refine stop_ ?_))
local macro_rules | `(tactic| walk_at "subscriptTail Name Call ref int") => `(tactic| (k_here; refine stop_ ?_))
local macro_rules | `(tactic| walk_at "InvPostN") => `(tactic| (refine stop_ ?_))
local macro_rules | `(tactic| walk_at "InvPostN next") => `(tactic| (refine stop_ ?_))
local macro_rules | `(tactic| walk_at "InvPostN cont") => `(tactic| (refine stop_ ?_))
local macro_rules | `(tactic| walk_at "InvEndN") => `(tactic| (refine stop_ ?_))
local macro_rules | `(tactic| walk_at "CompSrc") => `(tactic| (refine stop_ ?_))
local macro_rules | `(tactic| walk_at "CompSrc ref") => `(tactic| (refine stop_ ?_))
section
variable {w : World} {mean : ExcName → Option Value} {mg mb : Str → Option Value} {dp un : Nat} {gd : Option (List Code)} {cn : Str} {cs : Scope} {a : Addr} {ccd : Value} {cl : List (Str × Addr)} {outer : List Env} {A₀ : Around} {base h₀ : Heap} {L : Addr} {m : Str → Option Value} {s : Shared} {Q E : Value → Shared → Prop} {rest : List (Addr × Obj)}

theorem draw_call (l : Addr) (n : Int) (t u : Tok) (e : Nat) (B : Below A₀ base outer h₀) (F : Fr h₀ L s.heap m) (X : (hd.heap_39 w.params).In h₀) (N : News h₀ L s.heap ((l, listOf [.int n t].toArray e) :: rest)) (hap : ∀ p ∈ rest, p.1 ≠ l) (T : TopC mean mg mb h₀) (hk : cs.kind = .function) (hd : dp + 20 < recursionLimit) (hu : un + 160 < cLine) {k : Nat} (hp : k ≤ s.toks)
   (h : ∀ t1 t2 h' tk', k ≤ tk' → Fr h₀ L h' m → News h₀ L h' ((l, listOf [.int (n / 20) t2].toArray e) :: rest) → Q (.int (n % 20) t1) { s with heap := h', toks := tk' }) :
   wpAny (model PG w) (ktrTop dp un gd cn cs L a ccd cl outer) (call (.ref 354) [.ref l, .int 20 u] []) Q E s := by
  refine wpAny_with_toks (n := k) hp ?_
  refine' hidCall [(l, listOf [.int n t].toArray e)] rest ?k1 ?k2 ?k3 ?k4 ?k4b ?k4c ?k5 ?kF ?kK ?k6 ?k7 ?k8 ?k9 ?kB ?c5 ?c2 ?c3 ?c4 ?cp ?_
  (case k4 => exact fun p hp => N p (by rw [List.mem_singleton.mp hp]; exact .head _))
  (case k4b => exact fun p hp => N p (.tail _ hp))
  (case k4c => exact fun p hp hm => hap p hp (List.mem_singleton.mp hm))
  walk_at "h_enter"
  k_steps
  refine leaveP_ (by k_asm) (by k_asm) (fun kF kN hp' => ?_)
  have h1 : (n.fmod 20) = n % 20 := Int.fmod_eq_emod_of_nonneg n (by decide)
  have h2 : (n.fdiv 20) = n / 20 := Int.fdiv_eq_ediv_of_nonneg n (by decide)
  change Q (.int (n.fmod 20) _) _
  rw [h1]
  have kN' : News h₀ L _ ((l, listOf [.int (n.fdiv 20) _].toArray e) :: rest) := kN
  rw [h2] at kN'
  exact h _ _ _ _ hp' kF kN'
end
end
section
theorem off_Bag : True := by
  w_top off
  exact trivial
local macro_rules | `(tactic| walk_at "p_enter") => `(tactic| (k_dflt (refine' pureCall _ ?k1 ?k2 ?k3 ?k4 ?k5 ?kF ?kK ?k6 ?k7 ?k8 ?k9 ?kB ?c5 ?c2 ?c3 ?c4 ?cp ?_; (case cp => first | assumption | ((try dsimp only); omega)); (case kF => exact rfl); (case kK => first | assumption | exact rfl); (case k1 => k_asm); (case k2 => k_asm); (case k3 => k_asm); (case k4 => k_asm); (case k5 => k_asm); (case k6 => k_is); (case k7 => k_is); (case k8 => ktr_room); (case k9 => first | exact BindsTo.of_eq rfl | exact binds_K (by k_in) rfl (by k_is) rfl rfl rfl); (case c5 => decide); (case kB => exact locs rfl); (case c2 => exact rfl); (case c3 => exact rfl); (case c4 => exact rfl); k_whole; intro g' L' h' tk' htk' F' N' B' X' T' hin'; (try dsimp only); (try k_fold))))
local macro_rules | `(tactic| walk_at "h_enter") => `(tactic| (k_dflt ((case cp => first | assumption | ((try dsimp only); omega)); (case k1 => k_asm); (case k2 => k_asm); (case k3 => k_asm); (case kF => exact rfl); (case kK => first | assumption | exact rfl); (case k5 => k_asm); (case k6 => k_is); (case k7 => k_is); (case k8 => ktr_room); (case k9 => first | exact BindsTo.of_eq rfl | exact binds_K (by k_in) rfl (by k_is) rfl rfl rfl); (case c5 => decide); (case kB => exact locs rfl); (case c2 => exact rfl); (case c3 => exact rfl); (case c4 => exact rfl); k_whole; intro g' L' h' tk' htk' F' N' B' X' T' hin'; (try dsimp only); (try k_fold))))
local macro_rules | `(tactic| walk_at "execs cons") => `(tactic| (k_here; (with_reducible refine wpAny_execs_cons ?_); try dsimp only))
local macro_rules | `(tactic| walk_at "execs cons") => `(tactic| (k_here; (with_reducible refine execs_consT ?hp ?_); (case hp => ((try dsimp only); omega)); try dsimp only))
local macro_rules | `(tactic| walk_at "TokOk") => `(tactic| (intro hpT; (try dsimp only at hpT); (try dsimp only)))
local macro_rules | `(tactic| walk_at "call builtin:str.replace") => `(tactic| ((with_reducible show wpAny _ _ (call (Value.builtin "str.replace") [Value.str _ _, Value.str _ _, Value.str _ _]) _ _ _); (refine replN ?k0 ?k1 ?k2 ?k3 ?k4 ?k5 ?k6 ?_; (case k0 => (try dsimp only); omega); (case k1 => show @Ne Nat _ _; omega); (case k2 => show @Ne Nat _ _; omega); (case k3 => show @Ne Nat _ _; omega); (case k4 => decide); (case k5 => omega); (case k6 => decide)); intro _ _ _ _ _ _; (try dsimp only)))
local macro_rules | `(tactic| walk_at "exec For Name Subscript cons nil") => `(tactic| (k_here; refine stop_ ?_))
local macro_rules | `(tactic| walk_at "exec For Name Call cons nil") => `(tactic| (k_here; refine stop_ ?_))
local macro_rules | `(tactic| walk_at "exec While Compare cons nil") => `(tactic| (k_here; refine stop_ ?_))
local macro_rules | `(tactic| walk_at "exec While BoolOp cons nil") => `(tactic| (k_here; refine stop_ ?_))
local macro_rules | `(tactic| walk_at "call ref") => `(tactic| (k_here; refine stop_ ?_))
local macro_rules | `(tactic| walk_at "call ref cons nil") => `(tactic| (k_here; refine stop_ ?_))
local macro_rules | `(tactic| walk_at "call ref nil nil") => `(tactic| (k_here; refine stop_ ?_))
local macro_rules | `(tactic| walk_at "pyIter ref") => `(tactic| (k_here; refine stop_ ?_))
local macro_rules | `(tactic| walk_at "subscriptTail Name Call ref int") => `(tactic| (k_here; refine stop_ ?_))
local macro_rules | `(tactic| walk_at "InvPostN") => `(tactic| (refine stop_ ?_))
local macro_rules | `(tactic| walk_at "InvPostN next") => `(tactic| (refine stop_ ?_))
local macro_rules | `(tactic| walk_at "InvPostN cont") => `(tactic| (refine stop_ ?_))
local macro_rules | `(tactic| walk_at "InvEndN") => `(tactic| (refine stop_ ?_))
local macro_rules | `(tactic| walk_at "CompSrc") => `(tactic| (refine stop_ ?_))
local macro_rules | `(tactic| walk_at "CompSrc ref") => `(tactic| (refine stop_ ?_))
section
variable {w : World} {mean : ExcName → Option Value} {mg mb : Str → Option Value} {dp un : Nat} {gd : Option (List Code)} {cn : Str} {cs : Scope} {a : Addr} {ccd : Value} {cl : List (Str × Addr)} {outer : List Env} {A₀ : Around} {base h₀ : Heap} {L : Addr} {m : Str → Option Value} {s : Shared} {Q E : Value → Shared → Prop} {news : List (Addr × Obj)}

theorem bag_call (l : Addr) (vs : List Value) (ns : List Int) (B : Below A₀ base outer h₀) (F : Fr h₀ L s.heap m) (X : (hd.heap_39 w.params).In h₀) (N : News h₀ L s.heap news) (T : TopC mean mg mb h₀) (hk : cs.kind = .function) (hd : dp + 20 < recursionLimit) (hu : un + 160 < cLine) {k : Nat} (hp : k ≤ s.toks)
   (hl : h₀.IsList l vs.toArray) (hi : IntsAre vs ns) (hlen : ns.length ≤ 1000000)
   (h : ∀ b n t e h' tk', k ≤ tk' → 0 ≤ n → Fr h₀ L h' m → News h₀ L h' ((b, listOf [.int n t].toArray e) :: news) → (∀ p ∈ news, p.1 ≠ b) → Q (.ref b) { s with heap := h', toks := tk' }) :
   wpAny (model PG w) (ktrTop dp un gd cn cs L a ccd cl outer) (call (.ref 347) [.ref l] []) Q E s := by
  refine wpAny_with_toks (n := k) hp ?_
  walk_at "p_enter"
  rename_i g' L' h' tk' htk' F' N' B' X' T' hin'
  have hl' : g'.IsList l vs.toArray := hl.at fun o e => hin' _ _ (F.keep _ _ e)
  k_steps
  refine go_ ?_
  rename Fr _ _ _ _ => F2
  with_unfolding_all refine' For_invVF F2 rfl rfl ?_
  k_steps
  rename Fr _ _ _ _ => F3
  rename News _ _ _ _ => N3
  rename IntsAre _ _ => I3
  refine go_ ?_
  with_unfolding_all refine iter_invNL (fun _ mm _ => ∃ n t, mm (Str.ofString "n") = some (.int n t)) rfl (.head _) I3 F3 N3 ⟨_, _, rfl⟩ (fun i n t m₁ nx h1 tk own hi ha ho hm hJ F4 N4 => ?_) (fun m₁ nx h1 tk hm hJ F4 N4 => ?_)
  · obtain ⟨n1, t1, hJ⟩ := hJ
    replace F4 := frCanon F4 [(Str.ofString "s", .int n t), (Str.ofString "n", .int n1 t1)] (by exact ⟨rfl, hJ, trivial⟩)
    k_steps
    rename Fr _ _ _ _ => F5
    rename News _ _ _ _ => N5
    refine go_ ?_
    exact ⟨_, _, _, _, nx, rfl, F5, N5, fun p hp => List.mem_append_left _ hp, fun p hp => List.mem_append_right _ hp, ha, hm, _, _, rfl⟩
  · obtain ⟨n1, t1, hJ⟩ := hJ
    replace F4 := frCanon F4 [(Str.ofString "n", .int n1 t1)] (by exact ⟨hJ, trivial⟩)
    clear F3 N3
    k_steps
    rename Fr _ _ _ _ => F5
    rename News _ _ _ _ => N5
    refine leaveP_ F5 (news' := [_]) (fun p hp => N5 p (by rw [List.mem_singleton.mp hp]; exact .head _)) (fun kF kN hp' => ?_)
    refine h _ _ _ _ _ _ hp' ?_ kF kN (apart_of N hin' N5 (.head _))
    have hz : (0 : Int) < 10 ^ Int.toNat 200 := Int.pow_pos (by decide)
    rw [Int.fmod_eq_emod_of_nonneg _ (Int.le_of_lt hz)]
    exact Int.emod_nonneg _ (Int.ne_of_gt hz)
end
end
section
theorem off_Text : True := by
  w_top off
  exact trivial
local macro_rules | `(tactic| walk_at "no step") => `(tactic| fail)
local macro_rules | `(tactic| walk_at "p_enter") => `(tactic| (k_dflt (refine' pureCall _ ?k1 ?k2 ?k3 ?k4 ?k5 ?kF ?kK ?k6 ?k7 ?k8 ?k9 ?kB ?c5 ?c2 ?c3 ?c4 ?cp ?_; (case cp => first | assumption | ((try dsimp only); omega)); (case kF => exact rfl); (case kK => first | assumption | exact rfl); (case k1 => k_asm); (case k2 => k_asm); (case k3 => k_asm); (case k4 => k_asm); (case k5 => k_asm); (case k6 => k_is); (case k7 => k_is); (case k8 => ktr_room); (case k9 => first | exact BindsTo.of_eq rfl | exact binds_K (by k_in) rfl (by k_is) rfl rfl rfl); (case c5 => decide); (case kB => exact locs rfl); (case c2 => exact rfl); (case c3 => exact rfl); (case c4 => exact rfl); k_whole; intro g' L' h' tk' htk' F' N' B' X' T' hin'; (try dsimp only); (try k_fold))))
local macro_rules | `(tactic| walk_at "h_enter") => `(tactic| (k_dflt ((case cp => first | assumption | ((try dsimp only); omega)); (case k1 => k_asm); (case k2 => k_asm); (case k3 => k_asm); (case kF => exact rfl); (case kK => first | assumption | exact rfl); (case k5 => k_asm); (case k6 => k_is); (case k7 => k_is); (case k8 => ktr_room); (case k9 => first | exact BindsTo.of_eq rfl | exact binds_K (by k_in) rfl (by k_is) rfl rfl rfl); (case c5 => decide); (case kB => exact locs rfl); (case c2 => exact rfl); (case c3 => exact rfl); (case c4 => exact rfl); k_whole; intro g' L' h' tk' htk' F' N' B' X' T' hin'; (try dsimp only); (try k_fold))))
local macro_rules | `(tactic| walk_at "execs cons") => `(tactic| (k_here; (with_reducible refine wpAny_execs_cons ?_); try dsimp only))
local macro_rules | `(tactic| walk_at "execs cons") => `(tactic| (k_here; (with_reducible refine execs_consT ?hp ?_); (case hp => ((try dsimp only); omega)); try dsimp only))
local macro_rules | `(tactic| walk_at "TokOk") => `(tactic| (intro hpT; (try dsimp only at hpT); (try dsimp only)))
local macro_rules | `(tactic| walk_at "call builtin:str.replace") => `(tactic| ((with_reducible show wpAny _ _ (call (Value.builtin "str.replace") [Value.str _ _, Value.str _ _, Value.str _ _]) _ _ _); (refine replN ?k0 ?k1 ?k2 ?k3 ?k4 ?k5 ?k6 ?_; (case k0 => (try dsimp only); omega); (case k1 => show @Ne Nat _ _; omega); (case k2 => show @Ne Nat _ _; omega); (case k3 => show @Ne Nat _ _; omega); (case k4 => decide); (case k5 => omega); (case k6 => decide)); intro _ _ _ _ _ _; (try dsimp only)))
local macro_rules | `(tactic| walk_at "exec For Name Subscript cons nil") => `(tactic| (k_here; refine stop_ ?_))
local macro_rules | `(tactic| walk_at "exec For Name Call cons nil") => `(tactic| (k_here; refine stop_ ?_))
local macro_rules | `(tactic| walk_at "exec While Compare cons nil") => `(tactic| (k_here; refine stop_ ?_))
local macro_rules | `(tactic| walk_at "exec While BoolOp cons nil") => `(tactic| (k_here; refine stop_ ?_))
local macro_rules | `(tactic| walk_at "call ref") => `(tactic| (k_here; refine stop_ ?_))
local macro_rules | `(tactic| walk_at "call ref cons nil") => `(tactic| (k_here; refine stop_ ?_))
local macro_rules | `(tactic| walk_at "call ref nil nil") => `(tactic| (k_here; refine stop_ ?_))
local macro_rules | `(tactic| walk_at "pyIter ref") => `(tactic| (k_here; refine stop_ ?_))
local macro_rules | `(tactic| walk_at "subscriptTail Name Call ref int") => `(tactic| (k_here; refine stop_ ?_))
local macro_rules | `(tactic| walk_at "InvPostN") => `(tactic| (refine stop_ ?_))
local macro_rules | `(tactic| walk_at "InvPostN next") => `(tactic| (refine stop_ ?_))
local macro_rules | `(tactic| walk_at "InvPostN cont") => `(tactic| (refine stop_ ?_))
local macro_rules | `(tactic| walk_at "InvEndN") => `(tactic| (refine stop_ ?_))
local macro_rules | `(tactic| walk_at "CompSrc") => `(tactic| (refine stop_ ?_))
local macro_rules | `(tactic| walk_at "CompSrc ref") => `(tactic| (refine stop_ ?_))
section
variable {w : World} {mean : ExcName → Option Value} {mg mb : Str → Option Value} {dp un : Nat} {gd : Option (List Code)} {cn : Str} {cs : Scope} {a : Addr} {ccd : Value} {cl : List (Str × Addr)} {outer : List Env} {A₀ : Around} {base h₀ : Heap} {L : Addr} {m : Str → Option Value} {s : Shared} {Q E : Value → Shared → Prop} {rest : List (Addr × Obj)}

/-- a sign that utf-8 writes -/
def okCp (c : Nat) : Prop := c < 55296 ∨ (57344 ≤ c ∧ c < 1114112)
def okStr (x : Str) : Prop := ∀ c ∈ x.cps.toList, okCp c

def okCpB (c : Nat) : Bool := decide (c < 55296) || (decide (57344 ≤ c) && decide (c < 1114112))
def okPiece : Value → Bool
  | .str u _ => decide (u.length ≤ 3) && u.cps.toList.all okCpB
  | _ => false
theorem okPiece_of {vs : List Value} (h : vs.all okPiece = true) {k : Nat} {v : Value} (hv : vs[k]? = some v) : ∃ u t, v = .str u t ∧ u.length ≤ 3 ∧ okStr u := by
  have h1 := List.all_eq_true.mp h v (List.mem_of_getElem? hv)
  cases v <;> simp only [okPiece, Bool.false_eq_true, Bool.and_eq_true, decide_eq_true_eq] at h1
  rename_i u t
  refine ⟨u, t, rfl, h1.1, fun c hc => ?_⟩
  have h2 := List.all_eq_true.mp h1.2 c hc
  simp only [okCpB, Bool.or_eq_true, Bool.and_eq_true, decide_eq_true_eq] at h2
  exact h2
theorem okStr_nil : okStr (Str.ofString "") := by
  intro c hc
  have e : (Str.ofString "").cps.toList = [] := by decide
  rw [e] at hc
  cases hc
theorem okStr_append {x y : Str} (hx : okStr x) (hy : okStr y) : okStr (x ++ y) := by
  intro c hc
  rw [Str.cps_append, Array.toList_append] at hc
  rcases List.mem_append.mp hc with h | h
  · exact hx c h
  · exact hy c h

theorem text_call (l : Addr) (n : Int) (t : Tok) (e : Nat) (B : Below A₀ base outer h₀) (F : Fr h₀ L s.heap m) (X : (hd.heap_39 w.params).In h₀) (N : News h₀ L s.heap ((l, listOf [.int n t].toArray e) :: rest)) (hap : ∀ p ∈ rest, p.1 ≠ l) (T : TopC mean mg mb h₀) (hk : cs.kind = .function) (hd : dp + 40 < recursionLimit) (hu : un + 320 < cLine) (hp : 1 ≤ s.toks)
   (h : ∀ x n' t1 t2 h' tk', 1 ≤ tk' → x.length ≤ 69 → okStr x → Fr h₀ L h' m → News h₀ L h' ((l, listOf [.int n' t2].toArray e) :: rest) → Q (.str x t1) { s with heap := h', toks := tk' }) :
   wpAny (model PG w) (ktrTop dp un gd cn cs L a ccd cl outer) (call (.ref 361) [.ref l] []) Q E s := by
  refine wpAny_with_toks (n := 1) hp ?_
  refine' hidCall [(l, listOf [.int n t].toArray e)] rest ?k1 ?k2 ?k3 ?k4 ?k4b ?k4c ?k5 ?kF ?kK ?k6 ?k7 ?k8 ?k9 ?kB ?c5 ?c2 ?c3 ?c4 ?cp ?_
  (case k4 => exact fun p hp => N p (by rw [List.mem_singleton.mp hp]; exact .head _))
  (case k4b => exact fun p hp => N p (.tail _ hp))
  (case k4c => exact fun p hp hm => hap p hp (List.mem_singleton.mp hm))
  walk_at "h_enter"
  k_steps
  refine go_ ?_
  rename Fr _ _ _ _ => F2
  with_unfolding_all refine' For_invVF F2 rfl rfl ?_
  k_steps
  refine go_ ?_
  rename Fr _ _ _ _ => F2
  rename News _ _ _ _ => N2
  rename_i g' L' h3 tk' htk' B' X' T' hin' P h4 hlP h5 hpT h6 hpT2
  refine draw_call (outer := _ :: outer) l n t _ e (k := 1) (rest := [(P, _)]) (by k_asm) F2 (by k_asm) (fun p hp => N2 p ((List.Perm.swap _ _ _).mem_iff.mp hp)) (fun p hp => by rw [List.mem_singleton.mp hp]; exact Nat.ne_of_gt hlP) (by k_asm) (by rfl) (by ktr_room) (by ktr_units) (by (try dsimp only); omega) (fun t1 t2 h9 tk9 hp9 F9 N9 => ?_)
  have hn0 : 0 ≤ n % 20 := Int.emod_nonneg _ (by decide)
  have hn1 : n % 20 < 20 := Int.emod_lt_of_pos _ (by decide)
  obtain ⟨d, hd'⟩ := Int.eq_ofNat_of_zero_le hn0
  rw [hd'] at hn1 ⊢
  clear F2 N2 hd' hn0
  (try k_fold)
  k_steps
  refine go_ ?_
  rename Fr _ _ _ _ => F2
  rename News _ _ _ _ => N2
  rename IsRange _ _ _ _ _ _ _ _ => R2
  rw [show (4 + (d : Int)) = ((4 + d : Nat) : Int) by omega] at R2
  have hap1 : ∀ own : List (Addr × Obj), OwnOff own [l, P] → ∀ (o : Obj), ∀ p ∈ (P, o) :: own, p.1 ≠ l := fun own ho o p hp => by
    rcases List.mem_cons.mp hp with rfl | hp
    · exact Nat.ne_of_gt hlP
    · exact ho p hp l (.head _)
  obtain ⟨vs, N3, h20, hok⟩ : ∃ vs : List Value, News g' L' _ [(l, listOf [.int (n / 20) t2].toArray e), (P, listOf vs.toArray 0)] ∧ vs.length = 20 ∧ vs.all okPiece = true := ⟨_, N2, rfl, by with_unfolding_all rfl⟩
  clear N2
  with_unfolding_all refine iter_rangeN (n := 4 + d) (fun i mm nx => ∃ n x t1 t2, nx = [(l, listOf [.int n t2].toArray e), (P, listOf vs.toArray 0)] ∧ x.length ≤ 3 * i ∧ okStr x ∧ allIn mm [(Str.ofString "told", .str x t1), (Str.ofString "bag", .ref l), (Str.ofString "pieces", .ref P)]) rfl R2 (range_small _ (by omega)) (range_up _) F2 N3 ⟨_, _, _, _, rfl, Nat.le_refl _, okStr_nil, by exact ⟨rfl, rfl, rfl, trivial⟩⟩ (fun i tx m₁ nx h1 tk own hi ha ho hJ F4 N4 => ?_) (fun m₁ nx h1 tk hJ F4 N4 => ?_)
  · obtain ⟨n1, x, tt, tn, rfl, hxl, hxo, hm⟩ := hJ
    replace F4 := frCanon F4 [(Str.ofString "k", .int (0 + (i : Int)) tx), (Str.ofString "told", .str x tt), (Str.ofString "bag", .ref l), (Str.ofString "pieces", .ref P)] (by exact ⟨rfl, hm⟩)
    clear F2 N3
    k_steps
    refine go_ ?_
    rename Fr _ _ _ _ => F6
    rename News _ _ _ _ => N6
    refine draw_call (outer := _ :: outer) l n1 tn _ e (k := 0) (rest := (P, _) :: own) (by k_asm) F6 (by k_asm) N6 (hap1 own ho _) (by k_asm) (by rfl) (by ktr_room) (by ktr_units) (Nat.zero_le _) (fun t1 t2 h9 tk9 hp9 F9 N9 => ?_)
    have hm0 : 0 ≤ n1 % 20 := Int.emod_nonneg _ (by decide)
    have hm1 : n1 % 20 < 20 := Int.emod_lt_of_pos _ (by decide)
    generalize n1 % 20 = d1 at hm0 hm1
    clear F6 N6
    (try k_fold)
    k_steps
    refine go_ ?_
    rename Fr _ _ _ _ => F7
    rename News _ _ _ _ => N7
    with_unfolding_all refine item_any (N7.isList (.tail _ (.head _))) hm0 (by rw [h20]; exact hm1) (by rw [h20]; decide) (fun v hv => ?_)
    obtain ⟨u, tu, rfl, hul, huo⟩ := okPiece_of hok hv
    k_steps
    rename Fr _ _ _ _ => F8
    rename News _ _ _ _ => N8
    rename_i t8 k8 hl8 h8 tk8
    refine go_ ?_
    exact ⟨_, _, _, _, [_, _], rfl, F8, N8, fun p hp => List.mem_append_left own hp, fun p hp => List.mem_append_right [_, _] hp, rfl, _, _, _, _, rfl, by omega, okStr_append hxo huo, by exact ⟨rfl, rfl, rfl, trivial⟩⟩
  · obtain ⟨n1, x, tt, tn, rfl, hxl, hxo, hm⟩ := hJ
    replace F4 := frCanon F4 [(Str.ofString "told", .str x tt)] (by exact ⟨hm.1, trivial⟩)
    clear F2 N3
    k_steps
    refine leaveP_ F4 (news' := [_]) (fun p hp => N4 p (by rw [List.mem_singleton.mp hp]; exact .head _)) (fun kF kN hp' => ?_)
    exact h _ _ _ _ _ _ hp' (by omega) hxo kF kN
end
end
section
theorem off_Ub : True := by
  w_top off
  exact trivial
local macro_rules | `(tactic| walk_at "p_enter") => `(tactic| (k_dflt (refine' pureCall _ ?k1 ?k2 ?k3 ?k4 ?k5 ?kF ?kK ?k6 ?k7 ?k8 ?k9 ?kB ?c5 ?c2 ?c3 ?c4 ?cp ?_; (case cp => first | assumption | ((try dsimp only); omega)); (case kF => exact rfl); (case kK => first | assumption | exact rfl); (case k1 => k_asm); (case k2 => k_asm); (case k3 => k_asm); (case k4 => k_asm); (case k5 => k_asm); (case k6 => k_is); (case k7 => k_is); (case k8 => ktr_room); (case k9 => first | exact BindsTo.of_eq rfl | exact binds_K (by k_in) rfl (by k_is) rfl rfl rfl); (case c5 => decide); (case kB => exact locs rfl); (case c2 => exact rfl); (case c3 => exact rfl); (case c4 => exact rfl); k_whole; intro g' L' h' tk' htk' F' N' B' X' T' hin'; (try dsimp only); (try k_fold))))
local macro_rules | `(tactic| walk_at "h_enter") => `(tactic| (k_dflt ((case cp => first | assumption | ((try dsimp only); omega)); (case k1 => k_asm); (case k2 => k_asm); (case k3 => k_asm); (case kF => exact rfl); (case kK => first | assumption | exact rfl); (case k5 => k_asm); (case k6 => k_is); (case k7 => k_is); (case k8 => ktr_room); (case k9 => first | exact BindsTo.of_eq rfl | exact binds_K (by k_in) rfl (by k_is) rfl rfl rfl); (case c5 => decide); (case kB => exact locs rfl); (case c2 => exact rfl); (case c3 => exact rfl); (case c4 => exact rfl); k_whole; intro g' L' h' tk' htk' F' N' B' X' T' hin'; (try dsimp only); (try k_fold))))
local macro_rules | `(tactic| walk_at "execs cons") => `(tactic| (k_here; (with_reducible refine wpAny_execs_cons ?_); try dsimp only))
local macro_rules | `(tactic| walk_at "execs cons") => `(tactic| (k_here; (with_reducible refine execs_consT ?hp ?_); (case hp => ((try dsimp only); omega)); try dsimp only))
local macro_rules | `(tactic| walk_at "TokOk") => `(tactic| (intro hpT; (try dsimp only at hpT); (try dsimp only)))
local macro_rules | `(tactic| walk_at "call builtin:str.replace") => `(tactic| ((with_reducible show wpAny _ _ (call (Value.builtin "str.replace") [Value.str _ _, Value.str _ _, Value.str _ _]) _ _ _); (refine replN ?k0 ?k1 ?k2 ?k3 ?k4 ?k5 ?k6 ?_; (case k0 => (try dsimp only); omega); (case k1 => show @Ne Nat _ _; omega); (case k2 => show @Ne Nat _ _; omega); (case k3 => show @Ne Nat _ _; omega); (case k4 => decide); (case k5 => omega); (case k6 => decide)); intro _ _ _ _ _ _; (try dsimp only)))
local macro_rules | `(tactic| walk_at "exec For Name Subscript cons nil") => `(tactic| (k_here; refine stop_ ?_))
local macro_rules | `(tactic| walk_at "exec For Name Call cons nil") => `(tactic| (k_here; refine stop_ ?_))
local macro_rules | `(tactic| walk_at "exec While Compare cons nil") => `(tactic| (k_here; refine stop_ ?_))
local macro_rules | `(tactic| walk_at "exec While BoolOp cons nil") => `(tactic| (k_here; refine stop_ ?_))
local macro_rules | `(tactic| walk_at "call ref") => `(tactic| (k_here; refine stop_ ?_))
local macro_rules | `(tactic| walk_at "call ref cons nil") => `(tactic| (k_here; refine stop_ ?_))
local macro_rules | `(tactic| walk_at "call ref nil nil") => `(tactic| (k_here; refine stop_ ?_))
local macro_rules | `(tactic| walk_at "pyIter ref") => `(tactic| (k_here; refine stop_ ?_))
local macro_rules | `(tactic| walk_at "subscriptTail Name Call ref int") => `(tactic| (k_here; refine stop_ ?_))
local macro_rules | `(tactic| walk_at "InvPostN") => `(tactic| (refine stop_ ?_))
local macro_rules | `(tactic| walk_at "InvPostN next") => `(tactic| (refine stop_ ?_))
local macro_rules | `(tactic| walk_at "InvPostN cont") => `(tactic| (refine stop_ ?_))
local macro_rules | `(tactic| walk_at "InvEndN") => `(tactic| (refine stop_ ?_))
local macro_rules | `(tactic| walk_at "CompSrc") => `(tactic| (refine stop_ ?_))
local macro_rules | `(tactic| walk_at "CompSrc ref") => `(tactic| (refine stop_ ?_))
def sg (c : Nat) : Str := ⟨#[c]⟩
def isEsc (c : Nat) : Bool := [92, 44, 59, 58, 110, 78].contains c
def ubL : List Nat → List Nat
  | [] => []
  | [c] => [c]
  | c :: d :: r => if c = 92 ∧ isEsc d = true then (if d = 110 ∨ d = 78 then 10 else d) :: ubL r else c :: ubL (d :: r)
theorem ubL_plain {c : Nat} {t : List Nat} (h : c = 92 → ∀ d r, t = d :: r → isEsc d = false) : ubL (c :: t) = c :: ubL t := by
  cases t with
  | nil => rfl
  | cons d r =>
    rw [ubL, if_neg]
    intro h1
    rw [h h1.1 d r rfl] at h1
    exact Bool.false_ne_true h1.2
theorem ubL_esc {d : Nat} {r : List Nat} (h : isEsc d = true) : ubL (92 :: d :: r) = (if d = 110 ∨ d = 78 then 10 else d) :: ubL r := by
  rw [ubL, if_pos ⟨rfl, h⟩]
theorem inStr_some {y : Str} {c : Nat} (h : (Builtin.Str.occurrences y (sg c) 0 y.length 1).isEmpty = false) : c ∈ y.cps.toList := by
  have h1 := StrLaws.found_one y c
  have h2 : (Builtin.Str.occurrences y ⟨#[c]⟩ 0 y.length 1).isEmpty = false := h
  rw [h2] at h1
  exact of_decide_eq_true h1.symm
theorem inStr_none {y : Str} {c : Nat} (h : (Builtin.Str.occurrences y (sg c) 0 y.length 1).isEmpty = true) : c ∉ y.cps.toList := by
  have h1 := StrLaws.found_one y c
  have h2 : (Builtin.Str.occurrences y ⟨#[c]⟩ 0 y.length 1).isEmpty = true := h
  rw [h2] at h1
  exact of_decide_eq_false h1.symm
theorem sg_beq {a c : Nat} {y : Str} (hy : y = sg c) : (sg a == y) = decide (a = c) := by
  subst hy
  exact one_beq
/-- the sign at a place -/
def cp (x : Str) (i : Nat) : Nat := x.cps.toList.getD i 0
theorem drop_at {x : Str} {i : Nat} (h : i < x.length) : x.cps.toList.drop i = cp x i :: x.cps.toList.drop (i + 1) := by
  have h' : i < x.cps.toList.length := by rw [Array.length_toList]; exact h
  rw [List.drop_eq_getElem_cons h', cp, List.getD_eq_getElem?_getD, List.getElem?_eq_getElem h', Option.getD_some]
theorem drop_end {x : Str} {i : Nat} (h : x.length ≤ i) : x.cps.toList.drop i = [] := List.drop_eq_nil_of_le (by rw [Array.length_toList]; exact h)
theorem item_sg {x : Str} {i : Nat} (h : i < x.length) : Txt.item x (i : Int) = sg (cp x i) := by
  have h' : i < x.cps.size := h
  rw [item_meets (n := x.cps[i]) (by omega) (by simp [h'])]
  simp [sg, cp, h']
theorem sg_weight (l : List Nat) : ((l.map sg).map (·.length)).sum + (l.map sg).length = 2 * l.length := by
  induction l with
  | nil => rfl
  | cons c r ih =>
    simp only [List.map_cons, List.sum_cons, List.length_cons] at ih ⊢
    have : (sg c).length = 1 := rfl
    omega
theorem join_sgs (l : List Nat) : Txt.join (Str.ofString "") (l.map sg) = ⟨l.toArray⟩ := by
  have e : Str.ofString "" = ⟨#[]⟩ := by decide
  rw [e]
  exact (StrLaws.glued_eq_join _ _).trans (join_ones l)
theorem escSet : (Str.ofString "\\,;:nN").cps.toList = [92, 44, 59, 58, 110, 78] := by decide
theorem enSet : (Str.ofString "nN").cps.toList = [110, 78] := by decide
theorem strsPush {vs : List Value} {dn : List Nat} {c : Nat} {t : Tok} (h : StrsAre vs (dn.map sg)) : StrsAre (vs ++ [.str (sg c) t]) ((dn ++ [c]).map sg) := by
  rw [List.map_append]
  exact StrsAre.append' h (.cons _ _ .nil)
theorem strsPush2 {vs : List Value} {dn : List Nat} {c : Nat} {y : Str} {t : Tok} (h : StrsAre vs (dn.map sg)) (hy : y = sg c) : StrsAre (vs ++ [.str y t]) ((dn ++ [c]).map sg) := by
  subst hy
  exact strsPush h

section
variable {w : World} {mean : ExcName → Option Value} {mg mb : Str → Option Value} {dp un : Nat} {gd : Option (List Code)} {cn : Str} {cs : Scope} {a : Addr} {ccd : Value} {cl : List (Str × Addr)} {outer : List Env} {A₀ : Around} {base h₀ : Heap} {L : Addr} {m : Str → Option Value} {s : Shared} {Q E : Value → Shared → Prop} {news : List (Addr × Obj)}
theorem ub_call (x : Str) (t : Tok) (B : Below A₀ base outer h₀) (F : Fr h₀ L s.heap m) (X : (hd.heap_39 w.params).In h₀) (N : News h₀ L s.heap news) (T : TopC mean mg mb h₀) (hk : cs.kind = .function) (hd : dp + 20 < recursionLimit) (hu : un + 160 < cLine) (hx : x.length ≤ 1000) (hp : 1 ≤ s.toks)
   (h : ∀ t' h' tk', 1 ≤ tk' → Fr h₀ L h' m → News h₀ L h' news → Q (.str ⟨(ubL x.cps.toList).toArray⟩ t') { s with heap := h', toks := tk' }) :
   wpAny (model PG w) (ktrTop dp un gd cn cs L a ccd cl outer) (call (.ref 68) [.str x t] []) Q E s := by
  refine wpAny_with_toks (n := 1) hp ?_
  walk_at "p_enter"
  k_steps
  refine go_ ?_
  rename Fr _ _ _ _ => F2
  rename News _ _ _ _ => N2
  rename_i g' L' h' tk' htk' B' X' T' hin' R h3 lR h4 hp4 h5 hp5
  refine While_inv2 (fun n mm nx => ∃ (i : Nat) (dn : List Nat) (vs : List Value) (e : Nat) (ti : Tok), nx = [(R, listOf vs.toArray e)] ∧ i + n = x.length ∧ StrsAre vs (dn.map sg) ∧ dn.length ≤ i ∧ dn ++ ubL (x.cps.toList.drop i) = ubL x.cps.toList ∧ allIn mm [(Str.ofString "i", .int (i : Int) ti), (Str.ofString "val", .str x t), (Str.ofString "result", .ref R)]) (n₀ := x.length) F2 N2 ⟨0, [], [], _, _, rfl, by omega, .nil, Nat.le_refl _, rfl, by exact ⟨rfl, rfl, rfl, trivial⟩⟩ (fun n m₁ nx h1 tk1 F4 N4 hJ => ?_)
  obtain ⟨i, dn, vs, e, ti, rfl, hi, hS, hdn, hub, hm⟩ := hJ
  replace F4 := frCanon F4 _ hm
  clear F2 N2
  k_steps
  · rename Fr _ _ _ _ => F8
    rename News _ _ _ _ => N8
    rename_i q1 q2 q3 q4 q5 q6 q7 h8 hpa h9 hpb hpc
    simp only [List.push_toArray] at N8
    have hlt : i < x.length := by omega
    have e0 := item_sg hlt
    have hlt1 : i + 1 < x.length := by omega
    have e1 : Txt.item x ((i : Int) + 1) = _ := item_sg hlt1
    rw [e1] at q6
    have hpl : cp x i = 92 → ∀ d r, x.cps.toList.drop (i + 1) = d :: r → isEsc d = false := fun _ d r hr => by
      rw [drop_at hlt1] at hr
      have hd := (List.cons.inj hr).1
      have hn := inStr_none q6
      rw [escSet, hd] at hn
      unfold isEsc
      simpa using hn
    exact wend (n - 1) F8 N8 (by omega) ⟨i + 1, dn ++ [cp x i], _, _, _, rfl, by omega, strsPush2 hS (e0), by simp; omega, by rw [List.append_assoc, ← hub, drop_at hlt, ubL_plain hpl]; rfl, by exact ⟨rfl, rfl, rfl, trivial⟩⟩
  · rename Fr _ _ _ _ => F8
    rename News _ _ _ _ => N8
    rename_i q1 q2 q3 q4 q5 q6 q7 q8 q9 h8 hpa h9 hpb hpc
    simp only [List.push_toArray] at N8
    have hlt : i < x.length := by omega
    have e0 := item_sg hlt
    have hlt1 : i + 1 < x.length := by omega
    have e1 : Txt.item x ((i : Int) + 1) = _ := item_sg hlt1
    rw [e1] at q6 q8
    rw [e0, sg_beq (c := 92) (by decide)] at q3
    have h92 := of_decide_eq_true q3
    have hes : isEsc (cp x (i + 1)) = true := by
      have hn := inStr_some q6
      rw [escSet] at hn
      unfold isEsc
      simpa using hn
    have hub2 : dn ++ ubL (x.cps.toList.drop i) = dn ++ (if cp x (i + 1) = 110 ∨ cp x (i + 1) = 78 then 10 else cp x (i + 1)) :: ubL (x.cps.toList.drop (i + 2)) := by
      rw [drop_at hlt, drop_at hlt1, h92, ubL_esc hes]
    have hne : ¬ (cp x (i + 1) = 110 ∨ cp x (i + 1) = 78) := by
      have hn := inStr_none q8
      rw [enSet] at hn
      simpa using hn
    rw [if_neg hne] at hub2
    exact wend (n - 2) F8 N8 (by omega) ⟨i + 2, dn ++ [cp x (i + 1)], _, _, _, rfl, by omega, strsPush2 hS (e1), by simp; omega, by rw [List.append_assoc, ← hub, hub2]; rfl, by exact ⟨rfl, rfl, rfl, trivial⟩⟩
  · rename Fr _ _ _ _ => F8
    rename News _ _ _ _ => N8
    rename_i q1 q2 q3 q4 q5 q6 q7 q8 h8 hpa h9 hpb hpc
    simp only [List.push_toArray] at N8
    have hlt : i < x.length := by omega
    have e0 := item_sg hlt
    have hlt1 : i + 1 < x.length := by omega
    have e1 : Txt.item x ((i : Int) + 1) = _ := item_sg hlt1
    rw [e1] at q6 q8
    rw [e0, sg_beq (c := 92) (by decide)] at q3
    have h92 := of_decide_eq_true q3
    have hes : isEsc (cp x (i + 1)) = true := by
      have hn := inStr_some q6
      rw [escSet] at hn
      unfold isEsc
      simpa using hn
    have hub2 : dn ++ ubL (x.cps.toList.drop i) = dn ++ (if cp x (i + 1) = 110 ∨ cp x (i + 1) = 78 then 10 else cp x (i + 1)) :: ubL (x.cps.toList.drop (i + 2)) := by
      rw [drop_at hlt, drop_at hlt1, h92, ubL_esc hes]
    have hne : cp x (i + 1) = 110 ∨ cp x (i + 1) = 78 := by
      have hn := inStr_some q8
      rw [enSet] at hn
      simpa using hn
    rw [if_pos hne] at hub2
    exact wend (n - 2) F8 N8 (by omega) ⟨i + 2, dn ++ [10], _, _, _, rfl, by omega, strsPush2 hS (by decide), by simp; omega, by rw [List.append_assoc, ← hub, hub2]; rfl, by exact ⟨rfl, rfl, rfl, trivial⟩⟩
  · rename Fr _ _ _ _ => F8
    rename News _ _ _ _ => N8
    rename_i q1 q2 q3 q4 q5 h8 hpa h9 hpb hpc
    simp only [List.push_toArray] at N8
    have hlt : i < x.length := by omega
    have e0 := item_sg hlt
    have hpl : cp x i = 92 → ∀ d r, x.cps.toList.drop (i + 1) = d :: r → isEsc d = false := fun _ d r hr => by
      have h0 : x.cps.toList.drop (i + 1) = [] := drop_end (by omega)
      rw [h0] at hr
      cases hr
    exact wend (n - 1) F8 N8 (by omega) ⟨i + 1, dn ++ [cp x i], _, _, _, rfl, by omega, strsPush2 hS (e0), by simp; omega, by rw [List.append_assoc, ← hub, drop_at hlt, ubL_plain hpl]; rfl, by exact ⟨rfl, rfl, rfl, trivial⟩⟩
  · rename Fr _ _ _ _ => F8
    rename News _ _ _ _ => N8
    rename_i q1 q2 q3 q4 h8 hpa h9 hpb hpc
    simp only [List.push_toArray] at N8
    have hlt : i < x.length := by omega
    have e0 := item_sg hlt
    rw [e0, sg_beq (c := 92) (by decide)] at q3
    have hpl : cp x i = 92 → ∀ d r, x.cps.toList.drop (i + 1) = d :: r → isEsc d = false := fun h92 => absurd h92 (of_decide_eq_false q3)
    exact wend (n - 1) F8 N8 (by omega) ⟨i + 1, dn ++ [cp x i], _, _, _, rfl, by omega, strsPush2 hS (e0), by simp; omega, by rw [List.append_assoc, ← hub, drop_at hlt, ubL_plain hpl]; rfl, by exact ⟨rfl, rfl, rfl, trivial⟩⟩
  · rename_i q1 hpa
    have hin : x.cps.toList.drop i = [] := drop_end (by omega)
    rw [hin] at hub
    refine join_listW (ys := dn.map sg) (N4.isList (.head _)) hS (by decide) ?hw (fun t9 k9 => ?_)
    case hw =>
      rw [sg_weight]
      have := drop_end (x := x) (i := i) (by omega)
      omega
    have hj : Txt.join (Str.ofString "") (dn.map sg) = ⟨(ubL x.cps.toList).toArray⟩ := by
      rw [← hub, join_sgs]
      simp [ubL]
    rw [hj]
    k_steps
    refine leaveP_ F4 News.nil (fun kF kN hp' => ?_)
    exact h _ _ _ hp' kF kN
end
end
section
theorem off_Plain : True := by
  w_top off
  exact trivial
local macro_rules | `(tactic| walk_at "p_enter") => `(tactic| (k_dflt (refine' pureCall _ ?k1 ?k2 ?k3 ?k4 ?k5 ?kF ?kK ?k6 ?k7 ?k8 ?k9 ?kB ?c5 ?c2 ?c3 ?c4 ?cp ?_; (case cp => first | assumption | ((try dsimp only); omega)); (case kF => exact rfl); (case kK => first | assumption | exact rfl); (case k1 => k_asm); (case k2 => k_asm); (case k3 => k_asm); (case k4 => k_asm); (case k5 => k_asm); (case k6 => k_is); (case k7 => k_is); (case k8 => ktr_room); (case k9 => first | exact BindsTo.of_eq rfl | exact binds_K (by k_in) rfl (by k_is) rfl rfl rfl); (case c5 => decide); (case kB => exact locs rfl); (case c2 => exact rfl); (case c3 => exact rfl); (case c4 => exact rfl); k_whole; intro g' L' h' tk' htk' F' N' B' X' T' hin'; (try dsimp only); (try k_fold))))
local macro_rules | `(tactic| walk_at "h_enter") => `(tactic| (k_dflt ((case cp => first | assumption | ((try dsimp only); omega)); (case k1 => k_asm); (case k2 => k_asm); (case k3 => k_asm); (case kF => exact rfl); (case kK => first | assumption | exact rfl); (case k5 => k_asm); (case k6 => k_is); (case k7 => k_is); (case k8 => ktr_room); (case k9 => first | exact BindsTo.of_eq rfl | exact binds_K (by k_in) rfl (by k_is) rfl rfl rfl); (case c5 => decide); (case kB => exact locs rfl); (case c2 => exact rfl); (case c3 => exact rfl); (case c4 => exact rfl); k_whole; intro g' L' h' tk' htk' F' N' B' X' T' hin'; (try dsimp only); (try k_fold))))
local macro_rules | `(tactic| walk_at "execs cons") => `(tactic| (k_here; (with_reducible refine wpAny_execs_cons ?_); try dsimp only))
local macro_rules | `(tactic| walk_at "execs cons") => `(tactic| (k_here; (with_reducible refine execs_consT ?hp ?_); (case hp => ((try dsimp only); omega)); try dsimp only))
local macro_rules | `(tactic| walk_at "TokOk") => `(tactic| (intro hpT; (try dsimp only at hpT); (try dsimp only)))
local macro_rules | `(tactic| walk_at "call builtin:str.replace") => `(tactic| ((with_reducible show wpAny _ _ (call (Value.builtin "str.replace") [Value.str _ _, Value.str _ _, Value.str _ _]) _ _ _); (refine replN ?k0 ?k1 ?k2 ?k3 ?k4 ?k5 ?k6 ?_; (case k0 => (try dsimp only); omega); (case k1 => show @Ne Nat _ _; omega); (case k2 => show @Ne Nat _ _; omega); (case k3 => show @Ne Nat _ _; omega); (case k4 => decide); (case k5 => omega); (case k6 => decide)); intro _ _ _ _ _ _; (try dsimp only)))
local macro_rules | `(tactic| walk_at "exec For Name Subscript cons nil") => `(tactic| (k_here; refine stop_ ?_))
local macro_rules | `(tactic| walk_at "exec For Name Call cons nil") => `(tactic| (k_here; refine stop_ ?_))
local macro_rules | `(tactic| walk_at "exec While Compare cons nil") => `(tactic| (k_here; refine stop_ ?_))
local macro_rules | `(tactic| walk_at "exec While BoolOp cons nil") => `(tactic| (k_here; refine stop_ ?_))
local macro_rules | `(tactic| walk_at "call ref") => `(tactic| (k_here; refine stop_ ?_))
local macro_rules | `(tactic| walk_at "call ref cons nil") => `(tactic| (k_here; refine stop_ ?_))
local macro_rules | `(tactic| walk_at "call ref nil nil") => `(tactic| (k_here; refine stop_ ?_))
local macro_rules | `(tactic| walk_at "pyIter ref") => `(tactic| (k_here; refine stop_ ?_))
local macro_rules | `(tactic| walk_at "subscriptTail Name Call ref int") => `(tactic| (k_here; refine stop_ ?_))
local macro_rules | `(tactic| walk_at "InvPostN") => `(tactic| (refine stop_ ?_))
local macro_rules | `(tactic| walk_at "InvPostN next") => `(tactic| (refine stop_ ?_))
local macro_rules | `(tactic| walk_at "InvPostN cont") => `(tactic| (refine stop_ ?_))
local macro_rules | `(tactic| walk_at "InvEndN") => `(tactic| (refine stop_ ?_))
local macro_rules | `(tactic| walk_at "CompSrc") => `(tactic| (refine stop_ ?_))
local macro_rules | `(tactic| walk_at "CompSrc ref") => `(tactic| (refine stop_ ?_))
def pl1 : List Nat → List Nat
  | [] => []
  | [c] => [c]
  | c :: d :: r => if c = 92 ∧ d = 78 then 10 :: pl1 r else c :: pl1 (d :: r)
def pl2 : Bool → List Nat → List Nat
  | _, [] => []
  | p, c :: r => (if c = 10 ∧ p = true then [] else if c = 13 then [10] else [c]) ++ pl2 (decide (c = 13)) r
def plainL (l : List Nat) : List Nat := pl2 false (pl1 l)
theorem pl1_plain {c : Nat} {t : List Nat} (h : ∀ r, c :: t = 92 :: 78 :: r → False) : pl1 (c :: t) = c :: pl1 t := by
  cases t with
  | nil => rfl
  | cons d r =>
    rw [pl1, if_neg]
    rintro ⟨rfl, rfl⟩
    exact h r rfl
theorem pl1_len (l : List Nat) : (pl1 l).length ≤ l.length := by
  induction l using pl1.induct with
  | case1 => exact Nat.le_refl _
  | case2 c => exact Nat.le_refl _
  | case3 c d r h ih => rw [pl1, if_pos h]; simp only [List.length_cons]; omega
  | case4 c d r h ih => rw [pl1, if_neg h]; simp only [List.length_cons] at ih ⊢; omega
theorem pl2_len (l : List Nat) : ∀ p, (pl2 p l).length ≤ l.length := by
  induction l with
  | nil => intro p; exact Nat.le_refl _
  | cons c r ih =>
    intro p
    have h1 := ih (decide (c = 13))
    rw [pl2, List.length_append, List.length_cons]
    have h2 : (if c = 10 ∧ p = true then [] else if c = 13 then [10] else [c]).length ≤ 1 := by
      split
      · exact Nat.zero_le _
      · split <;> exact Nat.le_refl _
    omega
theorem plainL_len (l : List Nat) : (plainL l).length ≤ l.length := Nat.le_trans (pl2_len _ _) (pl1_len _)
theorem slice_clip (x : Str) (i k : Nat) (h : i < x.length) : Txt.slice x (some (i : Int)) (some ((i : Int) + (k : Int))) = ⟨((x.cps.toList.drop i).take k).toArray⟩ := by
  have hl : x.cps.toList.length = x.length := Array.length_toList
  have e : Builtin.Str.strSliceIndices (some (i : Int)) (some ((i : Int) + (k : Int))) 1 x.length = Builtin.Str.strSliceIndices (some (i : Int)) (some ((min (i + k) x.length : Nat) : Int)) 1 x.length := by
    simp only [Builtin.Str.strSliceIndices]
    have e1 : max (0 : Int) (min ((i : Int) + (k : Int)) (x.length : Int)) = max (0 : Int) (min (((min (i + k) x.length : Nat)) : Int) (x.length : Int)) := by omega
    have n1 : ¬ ((i : Int) + (k : Int) < 0) := by omega
    have n2 : ¬ (((min (i + k) x.length : Nat) : Int) < 0) := by omega
    have n3 : (1 : Int) > 0 := by decide
    simp only [if_neg n1, if_neg n2, if_pos n3, e1]
  have e2 : Txt.slice x (some (i : Int)) (some ((i : Int) + (k : Int))) = Txt.slice x (some (i : Int)) (some ((min (i + k) x.length : Nat) : Int)) := by
    unfold Txt.slice
    rw [e]
  rw [e2]
  have h3 := slice_closes (x := x) (i := (i : Int)) (j := ((min (i + k) x.length : Nat) : Int)) ⟨by omega, by omega, by rw [hl]; omega⟩
  rw [eq_of_beq h3]
  congr 2
  have h4 : (((min (i + k) x.length : Nat) : Int) - (i : Int)).toNat = min k (x.length - i) := by omega
  rw [h4, Int.toNat_natCast]
  rw [List.take_eq_take_min (i := k), List.length_drop, hl]
theorem str_beq_list {l : List Nat} {y : Str} {k : List Nat} (hy : y.cps.toList = k) : ((⟨l.toArray⟩ : Str) == y) = decide (l = k) := by
  subst hy
  by_cases h : l = y.cps.toList
  · rw [decide_eq_true h, beq_iff_eq]
    subst h
    rfl
  · rw [decide_eq_false h, beq_eq_false_iff_ne]
    intro e
    apply h
    rw [← e]
theorem bsN : (Str.ofString "\\N").cps.toList = [92, 78] := by decide
theorem strsAre_len {vs : List Value} {ys : List Str} (h : StrsAre vs ys) : vs.length = ys.length := by
  induction h with
  | nil => rfl
  | cons y t _ ih => simp [ih]
theorem strsAre_get : ∀ {f : List Nat} {vs : List Value} {j : Nat} {v : Value}, StrsAre vs (f.map sg) → vs[j]? = some v → ∃ t, v = .str (sg (f.getD j 0)) t := by
  intro f
  induction f with
  | nil => intro vs j v h hv; cases h; simp at hv
  | cons c r ih =>
    intro vs j v h hv
    cases h with
    | cons y t h' =>
      cases j with
      | zero => exact ⟨t, by simpa using hv.symm⟩
      | succ j => simpa using ih h' (by simpa using hv)
theorem item_sgs {prog : Program} {w : World} {A : Around} {E : Value → Shared → Prop} {s : Shared} {value slice : Expr} {P : Addr} {vs : List Value} {f : List Nat} {k : Int} {u : Tok} {Q : Value → Shared → Prop} (hl : s.heap.IsList P vs.toArray) (hS : StrsAre vs (f.map sg)) (h0 : 0 ≤ k) (hk : k < f.length) (hlen : f.length < 100000)
    (h : ∀ t, Q (.str (sg (f.getD k.toNat 0)) t) s)
    (hs : subscripted slice false (.ref P) (.int k u) = operate [.ref P, .int k u] (getItem (.ref P) (.int k u)) := by with_unfolding_all rfl) : wpAny (model prog w) A (subscriptTail value slice (.ref P) (.int k u)) Q E s := by
  have hn : vs.length = f.length := by
    rw [strsAre_len hS, List.length_map]
  refine item_any hl h0 (by rw [hn]; exact hk) (by omega) (fun v hv => ?_) hs
  obtain ⟨t, rfl⟩ := strsAre_get hS hv
  exact h t
theorem pl2_step {dn d2 R : List Nat} {i : Nat} {o : List Nat} (hi : i < dn.length) (h : d2 ++ pl2 (decide (0 < i ∧ dn.getD (i - 1) 0 = 13)) (dn.drop i) = R)
    (ho : (if dn.getD i 0 = 10 ∧ decide (0 < i ∧ dn.getD (i - 1) 0 = 13) = true then [] else if dn.getD i 0 = 13 then [10] else [dn.getD i 0]) = o) : (d2 ++ o) ++ pl2 (decide (0 < i + 1 ∧ dn.getD (i + 1 - 1) 0 = 13)) (dn.drop (i + 1)) = R := by
  have hd : dn.drop i = dn.getD i 0 :: dn.drop (i + 1) := by
    rw [List.drop_eq_getElem_cons hi, List.getD_eq_getElem?_getD, List.getElem?_eq_getElem hi, Option.getD_some]
  rw [hd, pl2, ho] at h
  rw [← h, List.append_assoc]
  congr 3
  simp
theorem sgi_beq {dn : List Nat} {i : Nat} {a : Nat} {y : Str} {b : Bool} (hy : y = sg a) (h : (sg (dn.getD ((i : Int)).toNat 0) == y) = b) : decide (dn.getD i 0 = a) = b := by
  rw [Int.toNat_natCast, sg_beq hy] at h
  exact h
theorem sgp_beq {dn : List Nat} {i : Nat} {a : Nat} {y : Str} {b : Bool} (hy : y = sg a) (h : (sg (dn.getD ((i : Int) - 1).toNat 0) == y) = b) : decide (dn.getD (i - 1) 0 = a) = b := by
  rw [show ((i : Int) - 1).toNat = i - 1 by omega, sg_beq hy] at h
  exact h
local macro_rules | `(tactic| walk_at "subscriptTail Name Name ref int") => `(tactic| (k_here; (refine' item_sgs (News.isList ?hN ?hM) ?hS ?h0 ?hk ?hl ?_; (case hN => k_asm); (case hM => k_mem); (case hS => k_asm); (case h0 => omega); (case hk => omega); (case hl => omega)); intro _))
local macro_rules | `(tactic| walk_at "subscriptTail Name BinOp ref int") => `(tactic| (k_here; (refine' item_sgs (News.isList ?hN ?hM) ?hS ?h0 ?hk ?hl ?_; (case hN => k_asm); (case hM => k_mem); (case hS => k_asm); (case h0 => omega); (case hk => omega); (case hl => omega)); intro _))
local macro_rules | `(tactic| walk_at "call builtin:list.append") => `(tactic| (k_here; refine stop_ ?_))
local macro_rules | `(tactic| walk_at "call builtin:list.append cons nil") => `(tactic| (k_here; refine stop_ ?_))
section
variable {w : World} {mean : ExcName → Option Value} {mg mb : Str → Option Value} {dp un : Nat} {gd : Option (List Code)} {cn : Str} {cs : Scope} {a : Addr} {ccd : Value} {cl : List (Str × Addr)} {outer : List Env} {A₀ : Around} {base h₀ : Heap} {L : Addr} {m : Str → Option Value} {s : Shared} {Q E : Value → Shared → Prop} {news : List (Addr × Obj)}
theorem plain_call (x : Str) (t : Tok) (B : Below A₀ base outer h₀) (F : Fr h₀ L s.heap m) (X : (hd.heap_39 w.params).In h₀) (N : News h₀ L s.heap news) (T : TopC mean mg mb h₀) (hk : cs.kind = .function) (hd : dp + 20 < recursionLimit) (hu : un + 160 < cLine) (hx : x.length ≤ 200) (hp : 1 ≤ s.toks)
   (h : ∀ D vs e h' tk', 1 ≤ tk' → StrsAre vs ((plainL x.cps.toList).map sg) → Fr h₀ L h' m → News h₀ L h' ((D, listOf vs.toArray e) :: news) → (∀ p ∈ news, p.1 ≠ D) → Q (.ref D) { s with heap := h', toks := tk' }) :
   wpAny (model PG w) (ktrTop dp un gd cn cs L a ccd cl outer) (call (.ref 368) [.str x t] []) Q E s := by
  refine wpAny_with_toks (n := 1) hp ?_
  walk_at "p_enter"
  k_steps
  refine go_ ?_
  rename Fr _ _ _ _ => F2
  rename News _ _ _ _ => N2
  rename_i g' L' h' tk' htk' B' X' T' hin' R h3 lR h4 hp4 h5 hp5
  refine While_inv2 (fun n mm nx => ∃ (i : Nat) (dn : List Nat) (vs : List Value) (e : Nat) (ti : Tok), nx = [(R, listOf vs.toArray e)] ∧ i + n = x.length ∧ StrsAre vs (dn.map sg) ∧ dn.length ≤ i ∧ dn ++ pl1 (x.cps.toList.drop i) = pl1 x.cps.toList ∧ allIn mm [(Str.ofString "k", .int (i : Int) ti), (Str.ofString "told", .str x t), (Str.ofString "found", .ref R)]) (n₀ := x.length) F2 N2 ⟨0, [], [], _, _, rfl, by omega, .nil, Nat.le_refl _, rfl, by exact ⟨rfl, rfl, rfl, trivial⟩⟩ (fun n m₁ nx h1 tk1 F4 N4 hJ => ?_)
  obtain ⟨i, dn, vs, e, ti, rfl, hi, hS, hdn, hub, hm⟩ := hJ
  replace F4 := frCanon F4 _ hm
  clear F2 N2
  have hvl : vs.length = dn.length := by rw [strsAre_len hS, List.length_map]
  k_steps
  · rename_i q1 q2 q3
    refine go_ ?_
    rename Fr _ _ _ _ => F8
    rename News _ _ _ _ => N8
    refine append_hd F8 N8 (fun _ h => nomatch h) (by omega) (fun h9 F9 N9 => ?_)
    clear F8 N8
    k_steps
    rename Fr _ _ _ _ => F8
    rename News _ _ _ _ => N8
    have hlt : i < x.length := by omega
    rw [show (some ((i : Int) + 2)) = some ((i : Int) + ((2 : Nat) : Int)) from rfl, slice_clip x i 2 hlt, str_beq_list bsN] at q3
    have hd := of_decide_eq_true q3
    have hlen : 2 ≤ (x.cps.toList.drop i).length := by
      have h1 : ((x.cps.toList.drop i).take 2).length = 2 := by rw [hd]; rfl
      rw [List.length_take] at h1
      omega
    rw [List.length_drop, Array.length_toList] at hlen
    have hxs : x.cps.size = x.length := rfl
    have hdr : x.cps.toList.drop i = 92 :: 78 :: x.cps.toList.drop (i + 2) := by
      rw [← List.take_append_drop 2 (x.cps.toList.drop i), hd, List.drop_drop]
      rfl
    exact wend (n - 2) F8 N8 (by omega) ⟨i + 2, dn ++ [10], _, _, _, rfl, by omega, strsPush2 hS (by decide), by simp; omega, by rw [List.append_assoc, ← hub, hdr, pl1, if_pos ⟨rfl, rfl⟩]; rfl, by exact ⟨rfl, rfl, rfl, trivial⟩⟩
  · rename Fr _ _ _ _ => F8
    rename News _ _ _ _ => N8
    rename_i q1 q2 q3 q4
    refine go_ ?_
    refine append_hd F8 N8 (fun _ h => nomatch h) (by omega) (fun h9 F9 N9 => ?_)
    clear F8 N8
    k_steps
    rename Fr _ _ _ _ => F8
    rename News _ _ _ _ => N8
    have hlt : i < x.length := by omega
    rw [show (some ((i : Int) + 2)) = some ((i : Int) + ((2 : Nat) : Int)) from rfl, slice_clip x i 2 hlt, str_beq_list bsN] at q3
    have hd := of_decide_eq_false q3
    have hpl : ∀ r, cp x i :: x.cps.toList.drop (i + 1) = 92 :: 78 :: r → False := fun r hr => by
      rw [← drop_at hlt] at hr
      exact hd (by rw [hr]; rfl)
    exact wend (n - 1) F8 N8 (by omega) ⟨i + 1, dn ++ [cp x i], _, _, _, rfl, by omega, strsPush2 hS (item_sg hlt), by simp; omega, by rw [List.append_assoc, ← hub, drop_at hlt, pl1_plain hpl]; rfl, by exact ⟨rfl, rfl, rfl, trivial⟩⟩
  · rename Fr _ _ _ _ => F8
    rename News _ _ _ _ => N8
    rename_i q1 hpT D h6 lR2 h7 hp7
    have hin : x.cps.toList.drop i = [] := drop_end (by omega)
    rw [hin] at hub
    have hdn2 : dn = pl1 x.cps.toList := by rw [← hub]; simp [pl1]
    have hsz : dn.length ≤ 200 := by omega
    clear hub hin hm hi hdn q1
    generalize hf : pl1 x.cps.toList = f at hdn2
    subst hdn2
    refine go_ ?_
    with_unfolding_all refine' For_invVF F8 rfl rfl ?_
    k_steps
    refine len_list (N8.isList (.tail _ (.head _))) (by rw [List.size_toArray]; omega) ?_
    rw [show ((vs.toArray.size : Nat) : Int) = ((dn.length : Nat) : Int) by rw [List.size_toArray, hvl]]
    k_steps
    refine go_ ?_
    rename Fr _ _ _ _ => F9
    rename News _ _ _ _ => N9
    rename IsRange _ _ _ _ _ _ _ _ => R9
    have hst : ([] : List Nat) ++ pl2 (decide (0 < 0 ∧ dn.getD (0 - 1) 0 = 13)) (dn.drop 0) = pl2 false dn := by simp
    have hsm := range_small dn.length (by omega)
    have hrs := range_up dn.length
    with_unfolding_all refine iter_rangeN (n := dn.length) (fun i mm nx => ∃ (d2 : List Nat) (ws : List Value) (e2 : Nat), nx = [(D, listOf ws.toArray e2), (R, listOf vs.toArray e)] ∧ StrsAre ws (d2.map sg) ∧ d2.length ≤ i ∧ d2 ++ pl2 (decide (0 < i ∧ dn.getD (i - 1) 0 = 13)) (dn.drop i) = pl2 false dn ∧ allIn mm [(Str.ofString "found", .ref R), (Str.ofString "rows", .ref D)]) rfl R9 hsm hrs F9 N9 ⟨[], [], _, rfl, .nil, Nat.le_refl _, hst, by exact ⟨rfl, rfl, trivial⟩⟩ (fun i tx m₁ nx h1 tk own hi ha ho hJ F4 N4 => ?_) (fun m₁ nx h1 tk hJ F4 N4 => ?_)
    · obtain ⟨d2, ws, e2, rfl, hW, hd2, hub2, hm⟩ := hJ
      replace F4 := frCanon F4 [(Str.ofString "k", .int (0 + (i : Int)) tx), (Str.ofString "found", .ref R), (Str.ofString "rows", .ref D)] (by exact ⟨rfl, hm⟩)
      rw [show (0 + (i : Int)) = (i : Int) by omega] at F4
      clear F9 N9
      rename Fr _ _ h7 _ => Fo
      rename News _ _ h7 _ => No
      clear Fo No
      have hapD : ∀ (o : Obj), ∀ p ∈ (R, o) :: own, p.1 ≠ D := fun o p hp => by
        rcases List.mem_cons.mp hp with rfl | hp
        · exact Nat.ne_of_lt lR2
        · exact ho p hp D (.head _)
      have hwl : ws.length = d2.length := by rw [strsAre_len hW, List.length_map]
      k_steps
      · rename_i t1 q1 q2 t2 q3 hpT9
        refine go_ ?_
        have c0 := of_decide_eq_true (sgi_beq (a := 10) (by decide) q1)
        have p0 := of_decide_eq_true (sgp_beq (a := 13) (by decide) q3)
        exact ⟨_, _, _, _, [_, _], rfl, F4, N4, fun p hp => List.mem_append_left own hp, fun p hp => List.mem_append_right [_, _] hp, rfl, d2, ws, e2, rfl, hW, by omega, by rw [← List.append_nil d2]; exact pl2_step hi hub2 (by rw [if_pos ⟨c0, decide_eq_true ⟨by omega, p0⟩⟩]), by exact ⟨rfl, rfl, trivial⟩⟩
      · rename_i t1 q1 q2 t2 q3 t3 q4
        refine go_ ?_
        refine append_hd F4 N4 (hapD _) (by omega) (fun h9 F9 N9 => ?_)
        clear F4 N4
        k_steps
        refine go_ ?_
        have c0 := of_decide_eq_true (sgi_beq (a := 10) (by decide) q1)
        have p0 := of_decide_eq_false (sgp_beq (a := 13) (by decide) q3)
        have r0 := of_decide_eq_true (sgi_beq (a := 13) (by decide) q4)
        exact ⟨_, _, _, _, [_, _], rfl, F9, N9, fun p hp => List.mem_append_left own hp, fun p hp => List.mem_append_right [_, _] hp, rfl, d2 ++ [10], _, _, rfl, strsPush2 hW (by decide), by simp; omega, pl2_step hi hub2 (by rw [if_neg (fun hh => p0 (of_decide_eq_true hh.2).2), if_pos r0]), by exact ⟨rfl, rfl, trivial⟩⟩
      · rename_i t1 q1 q2 t2 q3 t3 q4 t4
        refine go_ ?_
        refine append_hd F4 N4 (hapD _) (by omega) (fun h9 F9 N9 => ?_)
        clear F4 N4
        k_steps
        refine go_ ?_
        have c0 := of_decide_eq_true (sgi_beq (a := 10) (by decide) q1)
        have p0 := of_decide_eq_false (sgp_beq (a := 13) (by decide) q3)
        have r0 := of_decide_eq_false (sgi_beq (a := 13) (by decide) q4)
        exact ⟨_, _, _, _, [_, _], rfl, F9, N9, fun p hp => List.mem_append_left own hp, fun p hp => List.mem_append_right [_, _] hp, rfl, d2 ++ [dn.getD i 0], _, _, rfl, strsPush2 hW (by rw [Int.toNat_natCast]), by simp; omega, pl2_step hi hub2 (by rw [if_neg (fun hh => p0 (of_decide_eq_true hh.2).2), if_neg r0]), by exact ⟨rfl, rfl, trivial⟩⟩
      · rename_i t1 q1 q2 t3 q4
        refine go_ ?_
        refine append_hd F4 N4 (hapD _) (by omega) (fun h9 F9 N9 => ?_)
        clear F4 N4
        k_steps
        refine go_ ?_
        have c0 := of_decide_eq_true (sgi_beq (a := 10) (by decide) q1)
        have r0 := of_decide_eq_true (sgi_beq (a := 13) (by decide) q4)
        exact ⟨_, _, _, _, [_, _], rfl, F9, N9, fun p hp => List.mem_append_left own hp, fun p hp => List.mem_append_right [_, _] hp, rfl, d2 ++ [10], _, _, rfl, strsPush2 hW (by decide), by simp; omega, pl2_step hi hub2 (by rw [if_neg (fun hh => q2 (by have := (of_decide_eq_true hh.2).1; omega)), if_pos r0]), by exact ⟨rfl, rfl, trivial⟩⟩
      · rename_i t1 q1 q2 t3 q4 t4
        refine go_ ?_
        refine append_hd F4 N4 (hapD _) (by omega) (fun h9 F9 N9 => ?_)
        clear F4 N4
        k_steps
        refine go_ ?_
        have c0 := of_decide_eq_true (sgi_beq (a := 10) (by decide) q1)
        have r0 := of_decide_eq_false (sgi_beq (a := 13) (by decide) q4)
        exact ⟨_, _, _, _, [_, _], rfl, F9, N9, fun p hp => List.mem_append_left own hp, fun p hp => List.mem_append_right [_, _] hp, rfl, d2 ++ [dn.getD i 0], _, _, rfl, strsPush2 hW (by rw [Int.toNat_natCast]), by simp; omega, pl2_step hi hub2 (by rw [if_neg (fun hh => q2 (by have := (of_decide_eq_true hh.2).1; omega)), if_neg r0]), by exact ⟨rfl, rfl, trivial⟩⟩
      · rename_i t1 q1 t3 q4
        refine go_ ?_
        refine append_hd F4 N4 (hapD _) (by omega) (fun h9 F9 N9 => ?_)
        clear F4 N4
        k_steps
        refine go_ ?_
        have c0 := of_decide_eq_false (sgi_beq (a := 10) (by decide) q1)
        have r0 := of_decide_eq_true (sgi_beq (a := 13) (by decide) q4)
        exact ⟨_, _, _, _, [_, _], rfl, F9, N9, fun p hp => List.mem_append_left own hp, fun p hp => List.mem_append_right [_, _] hp, rfl, d2 ++ [10], _, _, rfl, strsPush2 hW (by decide), by simp; omega, pl2_step hi hub2 (by rw [if_neg (fun hh => c0 hh.1), if_pos r0]), by exact ⟨rfl, rfl, trivial⟩⟩
      · rename_i t1 q1 t3 q4 t4
        refine go_ ?_
        refine append_hd F4 N4 (hapD _) (by omega) (fun h9 F9 N9 => ?_)
        clear F4 N4
        k_steps
        refine go_ ?_
        have c0 := of_decide_eq_false (sgi_beq (a := 10) (by decide) q1)
        have r0 := of_decide_eq_false (sgi_beq (a := 13) (by decide) q4)
        exact ⟨_, _, _, _, [_, _], rfl, F9, N9, fun p hp => List.mem_append_left own hp, fun p hp => List.mem_append_right [_, _] hp, rfl, d2 ++ [dn.getD i 0], _, _, rfl, strsPush2 hW (by rw [Int.toNat_natCast]), by simp; omega, pl2_step hi hub2 (by rw [if_neg (fun hh => c0 hh.1), if_neg r0]), by exact ⟨rfl, rfl, trivial⟩⟩
    · obtain ⟨d2, ws, e2, rfl, hW, hd2, hub2, hm⟩ := hJ
      replace F4 := frCanon F4 [(Str.ofString "rows", .ref D)] (by exact ⟨hm.2.1, trivial⟩)
      rename Fr _ _ h7 _ => Fo
      rename News _ _ h7 _ => No
      clear Fo No F9 N9
      k_steps
      have hend : d2 = plainL x.cps.toList := by
        have h0 : dn.drop dn.length = [] := List.drop_length
        rw [h0] at hub2
        rw [plainL, hf, ← hub2]
        simp [pl2]
      rw [hend] at hW
      refine leaveP_ F4 (news' := [_]) (fun p hp => N4 p (by rw [List.mem_singleton.mp hp]; exact .head _)) (fun kF kN hp' => ?_)
      exact h _ _ _ _ _ hp' hW kF kN (apart_of N hin' N4 (.head _))
end
end
section
/-- how a sign is written -/
def mk (c : Nat) : List Nat := if c = 92 then [92, 92] else if c = 44 then [92, 44] else if c = 59 then [92, 59] else if c = 10 then [92, 110] else [c]
abbrev marksD : List (PyData × PyData) := [(.str (Str.ofString "\\"), .str (Str.ofString "\\\\")), (.str (Str.ofString ","), .str (Str.ofString "\\,")), (.str (Str.ofString ";"), .str (Str.ofString "\\;")), (.str (Str.ofString "\n"), .str (Str.ofString "\\n"))]
/-- the text as it is written -/
def dueL (l : List Nat) : List Nat := l.flatMap mk
theorem mk_len (c : Nat) : (mk c).length ≤ 2 := by
  unfold mk
  (repeat' split) <;> simp
theorem dueL_len (l : List Nat) : (dueL l).length ≤ 2 * l.length := by
  induction l with
  | nil => exact Nat.le_refl _
  | cons c r ih =>
    have h1 := mk_len c
    simp only [dueL, List.flatMap_cons, List.length_append, List.length_cons] at ih ⊢
    omega
theorem glue_fold (l : List Str) : ∀ (a : Array Nat), (l.foldl (fun acc p => acc ++ (#[] : Array Nat) ++ p.cps) a).toList = a.toList ++ l.flatMap (fun y => y.cps.toList) := by
  induction l with
  | nil => intro a; simp
  | cons y r ih => intro a; rw [List.foldl_cons, ih]; simp
theorem join_empty (ys : List Str) : Txt.join (Str.ofString "") ys = ⟨(ys.flatMap fun y => y.cps.toList).toArray⟩ := by
  have e : Str.ofString "" = ⟨#[]⟩ := by decide
  rw [e]
  unfold Txt.join Builtin.Str.glued
  cases ys with
  | nil => rfl
  | cons y r =>
    simp only [List.drop_succ_cons, List.drop_zero, List.headD_cons]
    congr 1
    apply Array.toList_inj.mp
    rw [glue_fold]
    simp
theorem join_mk (l : List Nat) : Txt.join (Str.ofString "") (l.map fun c => (⟨(mk c).toArray⟩ : Str)) = ⟨(dueL l).toArray⟩ := by
  rw [join_empty]
  simp only [dueL, List.flatMap_map]
theorem mk_weight (l : List Nat) : ((l.map fun c => (⟨(mk c).toArray⟩ : Str)).map (·.length)).sum + (l.map fun c => (⟨(mk c).toArray⟩ : Str)).length ≤ 3 * l.length := by
  induction l with
  | nil => exact Nat.le_refl _
  | cons c r ih =>
    have h1 := mk_len c
    have h2 : (⟨(mk c).toArray⟩ : Str).length = (mk c).length := by simp [Str.length]
    simp only [List.map_cons, List.sum_cons, List.length_cons, h2] at ih ⊢
    omega
theorem sg_inj {a b : Nat} (h : sg a = sg b) : a = b := by
  have h1 := congrArg (fun s : Str => s.cps.toList) h
  simpa [sg] using h1
theorem mk_no10 (c : Nat) : 10 ∉ mk c := by
  intro h
  unfold mk at h
  (repeat' split at h) <;> simp at h
  omega
theorem no10 (rows : List Nat) : 10 ∉ dueL rows := fun h => by
  obtain ⟨c, _, hc⟩ := List.mem_flatMap.mp h
  exact mk_no10 c hc
theorem pl2_no13 (l : List Nat) : ∀ p, 13 ∉ pl2 p l := by
  induction l with
  | nil => intro p h; cases h
  | cons c r ih =>
    intro p h
    rw [pl2] at h
    rcases List.mem_append.mp h with h | h
    · split at h
      · cases h
      · split at h
        · simp at h
        · rename_i hn
          exact hn (List.mem_singleton.mp h).symm
    · exact ih _ h
theorem no13 (l : List Nat) : 13 ∉ dueL (plainL l) := fun h => by
  obtain ⟨c, hc, hm⟩ := List.mem_flatMap.mp h
  unfold mk at hm
  (repeat' split at hm) <;> simp at hm
  subst hm
  exact pl2_no13 _ _ hc
theorem notIn {y : Str} {z : Str} {c : Nat} (hz : z = sg c) (h : c ∉ y.cps.toList) : (!(Builtin.Str.occurrences y z 0 y.length 1).isEmpty) = false := by
  subst hz
  have h1 := StrLaws.found_one y c
  exact h1.trans (decide_eq_false h)
/-- the four signs that are written with a stroke ahead -/
def isMk (c : Nat) : Prop := c = 92 ∨ c = 44 ∨ c = 59 ∨ c = 10
theorem mk_two {c : Nat} (h : isMk c) : ∃ d, mk c = [92, d] ∧ (d = 92 ∨ d = 44 ∨ d = 59 ∨ d = 110) := by
  rcases h with rfl | rfl | rfl | rfl
  · exact ⟨92, rfl, .inl rfl⟩
  · exact ⟨44, rfl, .inr (.inl rfl)⟩
  · exact ⟨59, rfl, .inr (.inr (.inl rfl))⟩
  · exact ⟨110, rfl, .inr (.inr (.inr rfl))⟩
theorem mk_one {c : Nat} (h : ¬ isMk c) : mk c = [c] := by
  unfold isMk at h
  unfold mk
  rw [if_neg (fun e => h (.inl e)), if_neg (fun e => h (.inr (.inl e))), if_neg (fun e => h (.inr (.inr (.inl e)))), if_neg (fun e => h (.inr (.inr (.inr e))))]
theorem isMk_em (c : Nat) : isMk c ∨ ¬ isMk c := Classical.em _
theorem dueL_cons (c : Nat) (r : List Nat) : dueL (c :: r) = mk c ++ dueL r := rfl
theorem dueL_append (a b : List Nat) : dueL (a ++ b) = dueL a ++ dueL b := List.flatMap_append
/-- at a sign's start -/
theorem at_mark {W : Str} {pre post : List Nat} (hW : W.cps.toList = dueL (pre ++ post)) (hlt : (dueL pre).length < W.length) : ∃ c r, post = c :: r ∧ W.cps.toList.drop (dueL pre).length = mk c ++ dueL r := by
  have hd : W.cps.toList.drop (dueL pre).length = dueL post := by
    rw [hW, dueL_append, List.drop_left]
  cases post with
  | nil =>
    rw [hd] at *
    have h1 : W.cps.toList.length = W.length := Array.length_toList
    rw [hW, List.append_nil] at h1
    omega
  | cons c r => exact ⟨c, r, rfl, hd⟩
theorem step_two {W : Str} {i : Nat} {c : Nat} {t : List Nat} (hd : W.cps.toList.drop i = mk c ++ t) (h92 : cp W i = 92) (hlt : i < W.length) : isMk c ∧ i + 2 ≤ W.length ∧ (mk c).length = 2 ∧ ∃ d, (d = 92 ∨ d = 44 ∨ d = 59 ∨ d = 110) ∧ W.cps.toList.drop (i + 1) = d :: t := by
  rw [drop_at hlt, h92] at hd
  have hc : isMk c := by
    rcases isMk_em c with hc | hc
    · exact hc
    · rw [mk_one hc] at hd
      exact .inl (List.cons.inj hd).1.symm
  obtain ⟨d, hm, hds⟩ := mk_two hc
  rw [hm] at hd
  have h1 := (List.cons.inj hd).2
  have h2 : (W.cps.toList.drop (i + 1)).length = ([d] ++ t).length := by rw [h1]; rfl
  rw [List.length_drop, Array.length_toList] at h2
  have h3 : W.length = W.cps.size := rfl
  simp only [List.length_append, List.length_cons, List.length_nil] at h2
  exact ⟨hc, by omega, by rw [hm]; rfl, d, hds, h1⟩
theorem step_one {W : Str} {i : Nat} {c : Nat} {t : List Nat} (hd : W.cps.toList.drop i = mk c ++ t) (h92 : cp W i ≠ 92) (hlt : i < W.length) : (mk c).length = 1 := by
  rw [drop_at hlt] at hd
  rcases isMk_em c with hc | hc
  · obtain ⟨d, hm, _⟩ := mk_two hc
    rw [hm] at hd
    exact absurd (List.cons.inj hd).1 h92
  · rw [mk_one hc]; rfl
theorem slice_one {W : Str} {i d : Nat} {t : List Nat} (hd : W.cps.toList.drop (i + 1) = d :: t) (hlt : i + 1 < W.length) : Txt.slice W (some ((i : Int) + 1)) (some ((i : Int) + 2)) = sg d := by
  have h := slice_clip W (i + 1) 1 hlt
  rw [hd] at h
  have e1 : (((i + 1 : Nat)) : Int) = (i : Int) + 1 := by omega
  have e2 : (i : Int) + 1 + ((1 : Nat) : Int) = (i : Int) + 2 := by omega
  rw [e1, e2] at h
  rw [h]
  rfl
theorem any_marks {d : Nat} (h : d = 92 ∨ d = 44 ∨ d = 59 ∨ d = 110) : ([Str.ofString "\\", Str.ofString ",", Str.ofString ";", Str.ofString "n"].any fun x => x == sg d) = true := by
  rcases h with rfl | rfl | rfl | rfl <;> decide
section
open PyProof.V
variable {prog : Program} {w : World} {A : Around} {E : Value → Shared → Prop} {s : Shared} {d : Addr} {Q : Value → Shared → Prop}
theorem get_mark (T : StrTab prog w s.heap d marksD) (c : Nat) (t : Tok) (h : ∀ t', Q (.str ⟨(mk c).toArray⟩ t') { s with toks := s.toks + 1 }) :
    wpAny (model prog w) A (call (.builtin "dict.get") [.ref d, .str (sg c) t, .str (sg c) t]) Q E s := by
  have b1 : Str.ofString "\\" = sg 92 := by decide
  have b2 : Str.ofString "," = sg 44 := by decide
  have b3 : Str.ofString ";" = sg 59 := by decide
  have b4 : Str.ofString "\n" = sg 10 := by decide
  have fin : ∀ (y : Str), PySem.Spec.lookup (.str (sg c)) marksD = some (.str y) → y.cps.toList = mk c → wpAny (model prog w) A (call (.builtin "dict.get") [.ref d, .str (sg c) t, .str (sg c) t]) Q E s := by
    intro y hl hy
    refine kt_get2_thereS T hl (Flat.str _ _) (fun v hv => ?_)
    obtain ⟨t9, rfl⟩ := Flat.str_inv hv
    have e : y = ⟨(mk c).toArray⟩ := by rw [← hy]
    rw [e]
    exact h t9
  by_cases h1 : c = 92
  · subst h1; exact fin (Str.ofString "\\\\") (by simp only [PySem.Spec.lookup, same_str]; rfl) (by decide)
  by_cases h2 : c = 44
  · subst h2; exact fin (Str.ofString "\\,") (by simp only [PySem.Spec.lookup, same_str]; rfl) (by decide)
  by_cases h3 : c = 59
  · subst h3; exact fin (Str.ofString "\\;") (by simp only [PySem.Spec.lookup, same_str]; rfl) (by decide)
  by_cases h4 : c = 10
  · subst h4; exact fin (Str.ofString "\\n") (by simp only [PySem.Spec.lookup, same_str]; rfl) (by decide)
  have hn : PySem.Spec.lookup (.str (sg c)) marksD = none := by
    have n : ∀ a, c ≠ a → decide (sg a = sg c) = false := fun a ha => decide_eq_false fun e => ha (sg_inj e).symm
    simp only [PySem.Spec.lookup, same_str, b1, b2, b3, b4, n 92 h1, n 44 h2, n 59 h3, n 10 h4, Bool.false_eq_true, if_false]
  refine kt_get2_noneS T hn (Flat.str _ _) (fun v hv => ?_)
  obtain ⟨t9, rfl⟩ := Flat.str_inv hv
  have e : (⟨(mk c).toArray⟩ : Str) = sg c := by
    unfold mk
    rw [if_neg h1, if_neg h2, if_neg h3, if_neg h4]
    rfl
  have := h t9
  rw [e] at this
  exact this
end
end
section
section
open PySem.Builtin PySem.Builtin._codecs
def encB (x : Str) : Array UInt8 := x.cps.foldl (fun acc y => acc ++ (Str.utf8Of y).toArray) #[]
theorem utf8_len (c : Nat) : (Str.utf8Of c).length ≤ 4 := by
  unfold Str.utf8Of
  (repeat' split) <;> simp
theorem encFold_size (l : List Nat) : ∀ a : Array UInt8, (l.foldl (fun acc y => acc ++ (Str.utf8Of y).toArray) a).size ≤ a.size + 4 * l.length := by
  induction l with
  | nil => intro a; simp
  | cons c r ih =>
    intro a
    have h1 := ih (a ++ (Str.utf8Of c).toArray)
    have h2 := utf8_len c
    rw [List.foldl_cons, List.length_cons]
    have h3 : (a ++ (Str.utf8Of c).toArray).size = a.size + (Str.utf8Of c).length := by simp
    rw [h3] at h1
    omega
theorem encB_size (x : Str) : (encB x).size ≤ 4 * x.length := by
  unfold encB
  rw [← Array.foldl_toList]
  have h := encFold_size x.cps.toList #[]
  rw [Array.length_toList] at h
  have e : x.length = x.cps.size := rfl
  rw [e]
  simpa using h
theorem forIn_two {σ : Type} (f : Nat → σ → Sem (ForInStep σ)) (n : Nat) (s0 s1 : σ) (h0 : 0 < n → f 0 s0 = pure (.yield s1)) (h1 : ∀ i, f i s1 = pure (.done s1)) (hz : n = 0 → s0 = s1) : forIn (List.range' 0 n) s0 f = pure s1 := by
  cases n with
  | zero => rw [hz rfl]; rfl
  | succ n =>
    rw [List.range'_succ, List.forIn_cons, h0 (by omega)]
    rw [pure_bind]
    cases n with
    | zero => rfl
    | succ n =>
      dsimp only
      rw [List.range'_succ, List.forIn_cons, h1, pure_bind]
theorem enc_narrow (id : String) (self : Value) (x : Str) (hx : ∀ c ∈ x.cps.toList, Str.isSurrogate c = false) (hl : x.length ≤ 1000) : encodeNarrow id utf8Codec none self x = pure (encB x) := by
  have hsz := encB_size x
  have hlen : x.length = x.cps.size := rfl
  unfold encodeNarrow
  simp only [Std.Legacy.Range.forIn_eq_forIn_range']
  rw [forIn_two _ _ _ (x.cps.size, encB x, {}) ?h0 ?h1 ?hz]
  · rfl
  case hz =>
    intro h
    have h' : x.cps.size = 0 := by have h9 : x.length = 0 := by simpa using h
                                   omega
    have e : x.cps = #[] := Array.eq_empty_of_size_eq_zero h'
    unfold encB
    rw [e]
    rfl
  case h1 =>
    intro i
    dsimp only
    rw [if_neg (by rw [sizeLine_eq]; omega)]
    have e : x.cps[x.cps.size]? = none := by simp
    rw [e]
  case h0 =>
    intro h
    have h' : 0 < x.cps.size := by have h9 : 0 < x.length := by simpa using h
                                   omega
    dsimp only
    rw [if_neg (by rw [sizeLine_eq]; simp)]
    have e : x.cps[0]? = some x.cps[0] := by simp [h']
    have hb : ∀ c ∈ x.cps.toList, utf8Codec.bad c = false := hx
    have hnone : Array.findIdx? utf8Codec.bad (x.cps.extract 0) = none := by
      rw [Array.findIdx?_eq_none_iff]
      intro c hc
      exact hb c (by simpa using hc)
    rw [e]
    dsimp only
    rw [hnone, hb _ (by simp), if_pos (show (!false) = true from rfl)]
    simp [encB, utf8Codec]

theorem gives_encode (x : Str) (t u : Tok) (hx : ∀ c ∈ x.cps.toList, Str.isSurrogate c = false) (hl : x.length ≤ 1000) : Gives («str.encode» ⟨[.str x t, .str (Str.ofString "utf-8") u], []⟩) (.bytes (encB x)) := by
  have e : «str.encode» ⟨[.str x t, .str (Str.ofString "utf-8") u], []⟩ = (do ret (← encodeRoad "str.encode" (.str x t) x (Str.ofString "utf-8") none)) := by kernel_rfl
  rw [e, encodeRoad_utf8, enc_narrow _ _ _ hx hl]
  exact .of_eq rfl
theorem encode_call {prog : Program} {w : World} {A : Around} {E : Value → Shared → Prop} {s : Shared} {x : Str} {t u : Tok} {Q : Value → Shared → Prop} (hx : ∀ c ∈ x.cps.toList, Str.isSurrogate c = false) (hl : x.length ≤ 1000)
    (h : Q (.bytes (encB x) s.toks) { s with toks := s.toks + 1 }) : wpAny (model prog w) A (call (.builtin "str.encode") [.str x t, .str (Str.ofString "utf-8") u]) Q E s :=
  call_gives F.slot_str_encode (typeIs_str _ _ _) F.entry_str_encode (F.args_str_encode_2 _ _) (gives_encode x t u hx hl) ⟨by have := encB_size x; rw [sizeLine_eq]; omega, h⟩
theorem encode_get {M : Model} {A : Around} {E : Value → Shared → Prop} {s : Shared} {x : Str} {t : Tok} {pl : Sem Bool} {Q : Value × List Value → Shared → Prop} (h : Q (.builtin "str.encode", [.str x t]) s) : wpAny M A (getMethod (.str x t) (Str.ofString "encode") pl) Q E s := by
  with_reducible exact GM.of (.str x t) (typeIs_str _ _ _) F.slot_str_encode F.type_str_encode GM.noRef h
theorem okSur {x : Str} (h : okStr x) : ∀ c ∈ x.cps.toList, Str.isSurrogate c = false := fun c hc => by
  have h1 := h c hc
  unfold okCp at h1
  unfold Str.isSurrogate
  rw [Bool.and_eq_false_iff]
  rcases h1 with h1 | h1
  · exact .inl (decide_eq_false (by omega))
  · exact .inr (decide_eq_false (by omega))
theorem pl1_mem (l : List Nat) : ∀ c ∈ pl1 l, c = 10 ∨ c ∈ l := by
  induction l using pl1.induct with
  | case1 => intro c hc; cases hc
  | case2 d => intro c hc; exact .inr hc
  | case3 c d r h ih =>
    intro e he
    rw [pl1, if_pos h] at he
    rcases List.mem_cons.mp he with rfl | he
    · exact .inl rfl
    · exact (ih e he).imp id fun h => .tail _ (.tail _ h)
  | case4 c d r h ih =>
    intro e he
    rw [pl1, if_neg h] at he
    rcases List.mem_cons.mp he with rfl | he
    · exact .inr (.head _)
    · exact (ih e he).imp id fun h => .tail _ h
theorem pl2_mem (l : List Nat) : ∀ p, ∀ c ∈ pl2 p l, c = 10 ∨ c ∈ l := by
  induction l with
  | nil => intro p c hc; cases hc
  | cons d r ih =>
    intro p c hc
    rw [pl2] at hc
    rcases List.mem_append.mp hc with h | h
    · split at h
      · cases h
      · split at h
        · exact .inl (List.mem_singleton.mp h)
        · exact .inr (by rw [List.mem_singleton.mp h]; exact .head _)
    · exact (ih _ c h).imp id fun h => .tail _ h
theorem mk_mem {c d : Nat} (h : d ∈ mk c) : d = 92 ∨ d = 110 ∨ d = c := by
  unfold mk at h
  (repeat' split at h) <;> simp at h <;> omega
theorem okStr_due {x : Str} (h : okStr x) : okStr ⟨(dueL (plainL x.cps.toList)).toArray⟩ := by
  intro d hd
  have hd' : d ∈ dueL (plainL x.cps.toList) := hd
  obtain ⟨c, hc, hdc⟩ := List.mem_flatMap.mp hd'
  have ok : ∀ k, k < 55296 → okCp k := fun k hk => .inl hk
  rcases mk_mem hdc with rfl | rfl | rfl
  · exact ok _ (by decide)
  · exact ok _ (by decide)
  · rcases pl2_mem _ _ _ hc with rfl | h2
    · exact ok _ (by decide)
    · rcases pl1_mem _ _ h2 with rfl | h3
      · exact ok _ (by decide)
      · exact h _ h3
end
end
section
theorem str_of_list {x : Str} {l : List Nat} (h : x.cps.toList = l) : x = ⟨l.toArray⟩ := by
  obtain ⟨⟨k⟩⟩ := x
  have e : k = l := h
  rw [e]
theorem rows_at (rows : List Nat) : (⟨rows.toArray⟩ : Str).cps.toList = rows := rfl
theorem ub_due (rows : List Nat) : ubL (dueL rows) = rows := by
  induction rows with
  | nil => rfl
  | cons c r ih =>
    rw [dueL_cons]
    by_cases h : isMk c
    · unfold isMk at h
      rcases h with rfl | rfl | rfl | rfl
      · show ubL (92 :: 92 :: dueL r) = _
        rw [ubL_esc (by decide), if_neg (by decide), ih]
      · show ubL (92 :: 44 :: dueL r) = _
        rw [ubL_esc (by decide), if_neg (by decide), ih]
      · show ubL (92 :: 59 :: dueL r) = _
        rw [ubL_esc (by decide), if_neg (by decide), ih]
      · show ubL (92 :: 110 :: dueL r) = _
        rw [ubL_esc (by decide), if_pos (by decide), ih]
    · rw [mk_one h]
      show ubL (c :: dueL r) = _
      rw [ubL_plain (fun h92 => absurd (Or.inl h92) h), ih]
/-- the signs with their three marks, newlines still bare -/
def e3 (c : Nat) : List Nat := if c = 92 then [92, 92] else if c = 59 then [92, 59] else if c = 44 then [92, 44] else [c]
theorem e3_three (l : List Nat) : rep1 44 [92, 44] (rep1 59 [92, 59] (rep1 92 [92, 92] l)) = l.flatMap e3 := by
  unfold rep1
  rw [List.flatMap_assoc, List.flatMap_assoc]
  congr 1
  funext c
  unfold e3
  by_cases h1 : c = 92
  · subst h1; decide
  · rw [if_neg h1, if_neg h1]
    by_cases h2 : c = 59
    · subst h2; decide
    · rw [if_neg h2]
      by_cases h3 : c = 44
      · subst h3; decide
      · rw [if_neg h3]
        simp [h2, h3]
def ends (l : List Nat) : List Nat := rep1 13 [92, 110] (rep1 10 [92, 110] l)
theorem ends_append (a b : List Nat) : ends (a ++ b) = ends a ++ ends b := by
  unfold ends rep1
  rw [List.flatMap_append, List.flatMap_append]
theorem ends_e3 (c : Nat) (p : Bool) (h : c = 10 → p = false) : ends (e3 c) = (if c = 10 ∧ p = true then [] else if c = 13 then [10] else [c]).flatMap mk := by
  have h0 : ¬ (c = 10 ∧ p = true) := fun hh => by rw [h hh.1] at hh; exact Bool.false_ne_true hh.2
  rw [if_neg h0]
  by_cases h13 : c = 13
  · subst h13; decide
  · rw [if_neg h13]
    show _ = mk c ++ []
    rw [List.append_nil]
    by_cases hm : isMk c
    · unfold isMk at hm
      rcases hm with rfl | rfl | rfl | rfl <;> decide
    · rw [mk_one hm]
      unfold isMk at hm
      have h1 : c ≠ 92 := fun e => hm (by omega)
      have h2 : c ≠ 44 := fun e => hm (by omega)
      have h3 : c ≠ 59 := fun e => hm (by omega)
      have h4 : c ≠ 10 := fun e => hm (by omega)
      unfold ends e3 rep1
      simp [h1, h2, h3, h4, h13]
theorem e3_head {c : Nat} {t : List Nat} (z : List Nat) (h : c = 13 → t.head? ≠ some 10) : rep2 13 10 z (e3 c ++ t) = e3 c ++ rep2 13 10 z t := by
  unfold e3
  split
  · show rep2 13 10 z (92 :: 92 :: t) = 92 :: 92 :: rep2 13 10 z t
    rw [rep2_plain (fun e => absurd e (by decide)), rep2_plain (fun e => absurd e (by decide))]
  · split
    · show rep2 13 10 z (92 :: 59 :: t) = 92 :: 59 :: rep2 13 10 z t
      rw [rep2_plain (fun e => absurd e (by decide)), rep2_plain (fun e => absurd e (by decide))]
    · split
      · show rep2 13 10 z (92 :: 44 :: t) = 92 :: 44 :: rep2 13 10 z t
        rw [rep2_plain (fun e => absurd e (by decide)), rep2_plain (fun e => absurd e (by decide))]
      · exact rep2_plain h
theorem e3_head10 {r : List Nat} (h : (r.flatMap e3).head? = some 10) : r.head? = some 10 := by
  cases r with
  | nil => cases h
  | cons c r =>
    rw [List.flatMap_cons] at h
    unfold e3 at h
    split at h
    · simp at h
    · split at h
      · simp at h
      · split at h
        · simp at h
        · simpa using h
theorem pl2_any {r : List Nat} (p : Bool) (h : r.head? ≠ some 10) : pl2 p r = pl2 false r := by
  cases r with
  | nil => rfl
  | cons c r =>
    have hc : c ≠ 10 := fun e => h (by rw [e]; rfl)
    have h1 : ¬ (c = 10 ∧ p = true) := fun hh => hc hh.1
    have h2 : ¬ (c = 10 ∧ false = true) := fun hh => hc hh.1
    rw [pl2, pl2, if_neg h1, if_neg h2]
theorem esc_core (n : Nat) : ∀ l : List Nat, l.length ≤ n → ends (rep2 13 10 [92, 110] (l.flatMap e3)) = (pl2 false l).flatMap mk := by
  induction n with
  | zero =>
    intro l hl
    have e : l = [] := List.length_eq_zero_iff.mp (Nat.le_zero.mp hl)
    subst e
    rfl
  | succ n ih =>
    intro l hl
    cases l with
    | nil => rfl
    | cons c r =>
      by_cases h : c = 13 ∧ r.head? = some 10
      · obtain ⟨rfl, h⟩ := h
        cases r with
        | nil => cases h
        | cons d r =>
          have hd : d = 10 := by simpa using h
          subst hd
          simp only [List.length_cons] at hl
          have e : (13 :: 10 :: r : List Nat).flatMap e3 = 13 :: 10 :: r.flatMap e3 := rfl
          rw [e, rep2_hit, ends_append, ih r (by omega)]
          have e2 : pl2 false (13 :: 10 :: r) = 10 :: pl2 false r := by simp [pl2]
          rw [e2]
          have e4 : ends [92, 110] = mk 10 := by decide
          rw [e4, List.flatMap_cons]
      · simp only [List.length_cons] at hl
        rw [List.flatMap_cons, e3_head _ (fun h1 h2 => h ⟨h1, e3_head10 h2⟩), ends_append, ih r (by omega), pl2, List.flatMap_append, ends_e3 c false (fun _ => rfl)]
        by_cases h13 : c = 13
        · rw [pl2_any (decide (c = 13)) (fun h2 => h ⟨h13, h2⟩)]
        · rw [decide_eq_false h13]
theorem pl1_rep (l : List Nat) : rep2 92 78 [10] l = pl1 l := by
  induction l using pl1.induct with
  | case1 => rfl
  | case2 c => rfl
  | case3 c d r h ih => rw [rep2, pl1, if_pos h, if_pos h, ih]; rfl
  | case4 c d r h ih => rw [rep2, pl1, if_neg h, if_neg h, ih]
theorem esc_due (x : Str) : escT x = ⟨(dueL (plainL x.cps.toList)).toArray⟩ := by
  apply str_of_list
  unfold escT
  rw [repl_one _ (a := 13) (zl := [92, 110]) (by decide) (by decide), repl_one _ (a := 10) (zl := [92, 110]) (by decide) (by decide), repl_two _ (a := 13) (b := 10) (zl := [92, 110]) (by decide) (by decide), repl_one _ (a := 44) (zl := [92, 44]) (by decide) (by decide), repl_one _ (a := 59) (zl := [92, 59]) (by decide) (by decide), repl_one _ (a := 92) (zl := [92, 92]) (by decide) (by decide), repl_two _ (a := 92) (b := 78) (zl := [10]) (by decide) (by decide), e3_three, pl1_rep]
  exact esc_core _ _ (Nat.le_refl _)
/-- no such two signs side by side -/
def noP (b : Nat) : List Nat → Prop
  | [] => True
  | c :: r => (c = 92 → r.head? ≠ some b) ∧ noP b r
theorem noP_of (b : Nat) : ∀ l : List Nat, (∀ i, (l.drop i).take 2 ≠ [92, b]) → noP b l
  | [], _ => trivial
  | c :: r, h => by
    refine ⟨fun hc hr => ?_, noP_of b r fun i => h (i + 1)⟩
    cases r with
    | nil => cases hr
    | cons d r =>
      have hd : d = b := by simpa using hr
      subst hd; subst hc
      exact h 0 rfl
theorem noP_occ {rows : List Nat} {y : Str} {b : Nat} (hy : y.cps.toList = [92, b]) (h : (Builtin.Str.occurrences (⟨rows.toArray⟩ : Str) y 0 (⟨rows.toArray⟩ : Str).length 1).isEmpty = true) : noP b rows := by
  apply noP_of
  intro i hi
  have h1 := StrLaws.found_iff (⟨rows.toArray⟩ : Str) y
  have h2 : (!(Builtin.Str.occurrences (⟨rows.toArray⟩ : Str) y 0 (⟨rows.toArray⟩ : Str).length 1).isEmpty) = true := by
    rw [h1]
    have hl : y.length = 2 := by rw [← str_len, hy]; rfl
    refine ⟨i, ?_, ?_⟩
    · have h3 : ((rows.drop i).take 2).length = 2 := by rw [hi]; rfl
      rw [List.length_take, List.length_drop] at h3
      have h4 : (⟨rows.toArray⟩ : Str).length = rows.length := by rw [← str_len]
      omega
    · rw [StrLaws.subAt_eq, hl, hy]
      show ((rows.drop i).take 2 == [92, b]) = true
      rw [hi]
      exact beq_self_eq_true _
  rw [h] at h2
  exact Bool.false_ne_true h2
/-- one step back: the mark of k is taken off, all else stays -/
theorem step_back (b : Nat) (z : List Nat) (f g : Nat → List Nat) (hb : b ≠ 92)
    (hf : ∀ c, (f c = [92, b] ∧ g c = z) ∨ (f c = g c ∧ ((∃ x, f c = [x] ∧ x ≠ 92) ∨ (∃ e, f c = [92, e] ∧ e ≠ b ∧ e ≠ 92) ∨ (c = 92 ∧ f c = [92, 92]))))
    (hh : ∀ c, (f c).head? = some b → c = b) : ∀ rows : List Nat, ((∀ c, (f c).head? ≠ some b) ∨ noP b rows) → rep2 92 b z (rows.flatMap f) = rows.flatMap g
  | [], _ => rfl
  | c :: r, hN => by
    have ih := step_back b z f g hb hf hh r (hN.imp id (·.2))
    rw [List.flatMap_cons, List.flatMap_cons]
    have hne : ∀ d, f d ≠ [] := fun d hd => by
      rcases hf d with h | ⟨_, ⟨x, h, _⟩ | ⟨e, h, _⟩ | ⟨_, h⟩⟩
      · rw [hd] at h; cases h.1
      · rw [hd] at h; cases h
      · rw [hd] at h; cases h
      · rw [hd] at h; cases h
    rcases hf c with ⟨h1, h2⟩ | ⟨h1, ⟨x, h2, h3⟩ | ⟨e, h2, h3, h4⟩ | ⟨h2, h3⟩⟩
    · rw [h1, h2]
      show rep2 92 b z (92 :: b :: r.flatMap f) = _
      rw [rep2_hit, ih]
    · rw [← h1, h2]
      show rep2 92 b z (x :: r.flatMap f) = _
      rw [rep2_plain (fun e => absurd e h3), ih]
      rfl
    · rw [← h1, h2]
      show rep2 92 b z (92 :: e :: r.flatMap f) = _
      rw [rep2_plain (fun _ hh => h3 (by simpa using hh)), rep2_plain (fun e => absurd e h4), ih]
      rfl
    · rw [← h1, h3]
      show rep2 92 b z (92 :: 92 :: r.flatMap f) = _
      rw [rep2_plain (fun _ hh => hb (by simpa using hh.symm)), rep2_plain ?_, ih]
      · rfl
      · intro _ hd
        cases r with
        | nil => cases hd
        | cons d r =>
          rw [List.flatMap_cons] at hd
          have hd2 : (f d).head? = some b := by
            cases hfd : f d with
            | nil => exact absurd hfd (hne d)
            | cons y t => rw [hfd] at hd; simpa using hd
          rcases hN with hN | hN
          · exact hN d hd2
          · exact hN.1 h2 (by rw [hh d hd2]; rfl)
theorem rep2_free {a b : Nat} {z : List Nat} : ∀ {l : List Nat}, b ∉ l → rep2 a b z l = l
  | [], _ => rfl
  | c :: r, h => by
    rw [rep2_plain (fun _ hh => ?_), rep2_free (fun hm => h (List.mem_cons_of_mem _ hm))]
    cases r with
    | nil => cases hh
    | cons d r =>
      have : d = b := by simpa using hh
      subst this
      exact h (by simp)
def mkA (c : Nat) : List Nat := if c = 92 then [92, 92] else if c = 44 then [92, 44] else if c = 59 then [92, 59] else [c]
def mkB (c : Nat) : List Nat := if c = 92 then [92, 92] else if c = 59 then [92, 59] else [c]
def mkC (c : Nat) : List Nat := if c = 92 then [92, 92] else [c]
theorem last_back : ∀ rows : List Nat, rep2 92 92 [92] (rows.flatMap mkC) = rows
  | [] => rfl
  | c :: r => by
    rw [List.flatMap_cons]
    by_cases h : c = 92
    · subst h
      show rep2 92 92 [92] (92 :: 92 :: r.flatMap mkC) = _
      rw [rep2_hit, last_back r]
      rfl
    · have e : mkC c = [c] := if_neg h
      rw [e]
      show rep2 92 92 [92] (c :: r.flatMap mkC) = _
      rw [rep2_plain (fun e => absurd e h), last_back r]
theorem une_due {W : Str} {rows : List Nat} (hW : W.cps.toList = dueL rows) (hA : (Builtin.Str.occurrences (⟨rows.toArray⟩ : Str) (Str.ofString "\\n") 0 (⟨rows.toArray⟩ : Str).length 1).isEmpty = true) (hB : (Builtin.Str.occurrences (⟨rows.toArray⟩ : Str) (Str.ofString "\\N") 0 (⟨rows.toArray⟩ : Str).length 1).isEmpty = true) : unescT W = ⟨rows.toArray⟩ := by
  have hA' : noP 110 rows := noP_occ (by decide) hA
  have hB' : noP 78 rows := noP_occ (by decide) hB
  apply str_of_list
  unfold unescT
  rw [repl_two _ (a := 92) (b := 92) (zl := [92]) (by decide) (by decide), repl_two _ (a := 92) (b := 59) (zl := [59]) (by decide) (by decide), repl_two _ (a := 92) (b := 44) (zl := [44]) (by decide) (by decide), repl_two _ (a := 92) (b := 110) (zl := [10]) (by decide) (by decide), repl_two _ (a := 13) (b := 10) (zl := [10]) (by decide) (by decide), repl_two _ (a := 92) (b := 78) (zl := [92, 110]) (by decide) (by decide), hW]
  have s1 : rep2 92 78 [92, 110] (dueL rows) = dueL rows := by
    refine step_back 78 _ mk mk (by decide) (fun c => .inr ⟨rfl, ?_⟩) (fun c hc => ?_) rows (.inr hB')
    · unfold mk
      split
      · exact .inr (.inr ⟨by assumption, rfl⟩)
      · split
        · exact .inr (.inl ⟨44, rfl, by decide, by decide⟩)
        · split
          · exact .inr (.inl ⟨59, rfl, by decide, by decide⟩)
          · split
            · exact .inr (.inl ⟨110, rfl, by decide, by decide⟩)
            · exact .inl ⟨c, rfl, by assumption⟩
    · unfold mk at hc
      split at hc
      · simp at hc
      · split at hc
        · simp at hc
        · split at hc
          · simp at hc
          · split at hc
            · simp at hc
            · simpa using hc
  have s2 : rep2 92 110 [10] (dueL rows) = rows.flatMap mkA := by
    refine step_back 110 _ mk mkA (by decide) (fun c => ?_) (fun c hc => ?_) rows (.inr hA')
    · unfold mk mkA
      split
      · exact .inr ⟨rfl, .inr (.inr ⟨by assumption, rfl⟩)⟩
      · split
        · exact .inr ⟨rfl, .inr (.inl ⟨44, rfl, by decide, by decide⟩)⟩
        · split
          · exact .inr ⟨rfl, .inr (.inl ⟨59, rfl, by decide, by decide⟩)⟩
          · split
            · rename_i h10
              exact .inl ⟨rfl, by rw [h10]⟩
            · exact .inr ⟨rfl, .inl ⟨c, rfl, by assumption⟩⟩
    · unfold mk at hc
      split at hc
      · simp at hc
      · split at hc
        · simp at hc
        · split at hc
          · simp at hc
          · split at hc
            · simp at hc
            · simpa using hc
  have s3 : rep2 92 44 [44] (rows.flatMap mkA) = rows.flatMap mkB := by
    refine step_back 44 _ mkA mkB (by decide) (fun c => ?_) (fun c hc => ?_) rows (.inl fun c hc => ?_)
    · unfold mkA mkB
      split
      · exact .inr ⟨rfl, .inr (.inr ⟨by assumption, rfl⟩)⟩
      · split
        · rename_i h44
          exact .inl ⟨rfl, by rw [h44, if_neg (by decide)]⟩
        · split
          · exact .inr ⟨rfl, .inr (.inl ⟨59, rfl, by decide, by decide⟩)⟩
          · exact .inr ⟨rfl, .inl ⟨c, rfl, by assumption⟩⟩
    · unfold mkA at hc
      split at hc
      · simp at hc
      · split at hc
        · simp at hc
        · split at hc
          · simp at hc
          · simpa using hc
    · unfold mkA at hc
      split at hc
      · simp at hc
      · split at hc
        · simp at hc
        · rename_i h44
          split at hc
          · simp at hc
          · exact h44 (by simpa using hc)
  have s4 : rep2 92 59 [59] (rows.flatMap mkB) = rows.flatMap mkC := by
    refine step_back 59 _ mkB mkC (by decide) (fun c => ?_) (fun c hc => ?_) rows (.inl fun c hc => ?_)
    · unfold mkB mkC
      split
      · exact .inr ⟨rfl, .inr (.inr ⟨by assumption, rfl⟩)⟩
      · split
        · rename_i h59
          exact .inl ⟨rfl, by rw [h59]⟩
        · exact .inr ⟨rfl, .inl ⟨c, rfl, by assumption⟩⟩
    · unfold mkB at hc
      split at hc
      · simp at hc
      · split at hc
        · simp at hc
        · simpa using hc
    · unfold mkB at hc
      split at hc
      · simp at hc
      · split at hc
        · simp at hc
        · rename_i h59
          exact h59 (by simpa using hc)
  rw [s1, rep2_free (a := 13) (no10 rows), s2, s3, s4]
  exact last_back rows
end
section
section
open PyProof.V PySem.Spec PySem.SeqAt
theorem readsAll_texts {h : Heap} : ∀ {vs : List Value} {ys : List Str}, StrsAre vs ys → ReadsAll h vs (ys.map PyData.str) []
  | _, _, .nil => .nil
  | _, _, .cons y t r => by
    have := ReadsAll.cons (Reads.str (h := h) y t) (readsAll_texts (h := h) r)
    simpa using this
theorem reads_texts {h : Heap} {a : Addr} {vs : List Value} {ys : List Str} (hl : h.IsList a vs.toArray) (hi : StrsAre vs ys) : Reads h (.ref a) (.list (ys.map PyData.str)) [a] := by
  obtain ⟨o, ho, hc, n, hd⟩ := hl
  exact Reads.list ho hc hd (by simpa using readsAll_texts hi)
theorem depthAll_texts : ∀ ys : List Str, PyData.depthAll (ys.map PyData.str) ≤ 1
  | [] => by simp [PyData.depthAll]
  | y :: r => by
    have := depthAll_texts r
    simp only [List.map_cons, PyData.depthAll, PyData.depth]
    omega
theorem okCp_small {c : Nat} (h : okCp c) : decide (c < 1114112) = true := by
  unfold okCp at h
  exact decide_eq_true (by omega)
theorem shaped_rows (rows : List Nat) (h : ∀ c ∈ rows, okCp c) : shaped (.list ((rows.map sg).map PyData.str)) = true := by
  have h1 := depthAll_texts (rows.map sg)
  have h2 : PyData.depth (.list ((rows.map sg).map PyData.str)) ≤ 64 := by simp only [PyData.depth]; omega
  show (PyData.canLay0 (.list ((rows.map sg).map PyData.str)) && decide (PyData.depth (.list ((rows.map sg).map PyData.str)) ≤ 64)) = true
  rw [Bool.and_eq_true]
  refine ⟨?_, decide_eq_true h2⟩
  simp only [PyData.canLay0]
  rw [canLayAll_strs', List.all_eq_true]
  intro y hy
  obtain ⟨c, hc, rfl⟩ := List.mem_map.mp hy
  show (#[c] : Array Nat).all (fun c => decide (c < 0x110000)) = true
  rw [Array.all_eq_true]
  intro i hi
  have e : i = 0 := by simpa using hi
  subst e
  exact okCp_small (h c hc)
theorem noMix_texts : ∀ a b : List Str, noMixAll (a.map PyData.str) (b.map PyData.str) = true
  | [], [] => by simp [noMixAll]
  | [], _ :: _ => by simp [noMixAll]
  | _ :: _, [] => by simp [noMixAll]
  | _ :: r, _ :: q => by simp [noMixAll, noMix, noMix_texts r q]
theorem same_rows : ∀ a b : List Nat, PySem.Spec.sameAll ((a.map sg).map PyData.str) ((b.map sg).map PyData.str) = decide (a = b)
  | [], [] => by simp [PySem.Spec.sameAll]
  | [], _ :: _ => by simp [PySem.Spec.sameAll]
  | _ :: _, [] => by simp [PySem.Spec.sameAll]
  | n :: r, k :: q => by
    simp only [List.map_cons, PySem.Spec.sameAll, PySem.Spec.same, same_rows r q]
    rw [sg_beq rfl]
    by_cases h : n = k <;> simp [h]
theorem eq_rowsK {prog : Program} {w : World} {A : Around} {E : Value → Shared → Prop} {s : Shared} {a b : Addr} {vs us : List Value} {ns ms : List Nat} {Q : Value → Shared → Prop} (hl : s.heap.IsList a vs.toArray) (hi : StrsAre vs (ns.map sg)) (hl' : s.heap.IsList b us.toArray) (hi' : StrsAre us (ms.map sg)) (hn : ∀ c ∈ ns, okCp c) (hm : ∀ c ∈ ms, okCp c) (hu : A.units + 64 < cLine)
    (h : Q (.bool (decide (ns = ms))) s) : wpAny (model prog w) A (compareOp .Eq (.ref a) (.ref b)) Q E s :=
  eq_dataH_same (reads_texts hl hi) (reads_texts hl' hi') (shaped_rows ns hn) (shaped_rows ms hm) hu (by simp only [noMix]; exact noMix_texts _ _) (by simp only [PySem.Spec.same]; rw [same_rows]; exact h)
theorem okPlain {x : Str} (h : okStr x) : ∀ c ∈ plainL x.cps.toList, okCp c := fun c hc => by
  have h10 : okCp 10 := .inl (by decide)
  rcases pl2_mem _ _ c hc with rfl | h1
  · exact h10
  · rcases pl1_mem _ c h1 with rfl | h2
    · exact h10
    · exact h c h2
theorem due_beq (a b : List Nat) : ((⟨(dueL a).toArray⟩ : Str) == ⟨(dueL b).toArray⟩) = decide (a = b) := by
  rw [str_beq_list (k := dueL b) rfl]
  by_cases h : a = b
  · rw [decide_eq_true h, h, decide_eq_true rfl]
  · rw [decide_eq_false h, decide_eq_false]
    intro e
    apply h
    rw [← ub_due a, ← ub_due b, e]
end
end
section
/-- an object of vText -/
abbrev vtObj (dd : Addr) (x : Str) (t : Tok) (sl : Array (Option Value)) : Obj := { cls := .ref 335, dict := some dd, data := .prim (.str x t), slots := sl }
theorem instVt {h₀ h : Heap} {L O dd : Addr} {news : List (Addr × Obj)} {x : Str} {t : Tok} {sl : Array (Option Value)} (N : News h₀ L h news) (hm : (O, vtObj dd x t sl) ∈ news) (hd : (dd, W.emptyDict) ∈ news) : InstAt h O (vtObj dd x t sl) 335 (some W.emptyDict) := ⟨(N _ hm).1, rfl, rfl, (N _ hd).1⟩
theorem method_bi {prog : Program} {w : World} {A : Around} {E : Value → Shared → Prop} {s : Shared} {K : Frag} {O C : Addr} {ox : Obj} {name : Str} {pl : Sem Bool} {Q : Value × List Value → Shared → Prop} {id : String} {od : Option Obj} (X : K.In s.heap) (I : InstAt s.heap O ox C od) (hga : findIn K (.ref C) "__getattribute__" = some (some (.builtin "object.__getattribute__"))) (hk : findIn K (.ref C) "__getattr__" = some none)
    (hf : findIn K (.ref C) name = some (some (.builtin id))) (ht : typeIn K (.builtin id) = some (.type "method_descriptor")) (hsh : shadowIn od name = some false) (h : Q (.builtin id, [.ref O]) s) :
    wpAny (model prog w) A (getMethod (.ref O) name pl) Q E s := by
  have hcan := PySem.F.canon_object_ga
  unfold getMethod specialOf
  refine wpAny_bind (wpAny_bind (I.type.here ((looks_findIn X hga).here ?_)))
  dsimp only
  rw [hcan, if_neg (by decide)]
  refine wpAny_bind (wpAny_bind (I.type.here ((looks_findIn X hk).here ?_)))
  refine wpAny_bind (wpAny_bind (I.type.here ((looks_findIn X hf).here (wpAny_bind ((looks_typeIn X ht).here ?_)))))
  rw [if_neg (by decide +kernel)]
  refine wpAny_bind (wpAny_loadPart I.at_ ?_)
  have hd := I.dict
  cases e : ox.dict with
  | none => exact wpAny_bind (wpAny_rule (wpAny_pure h))
  | some dx =>
    cases od with
    | none => rw [e] at hd; exact hd.elim
    | some o =>
      rw [e] at hd
      obtain ⟨r, a, b⟩ := Option.map_eq_some_iff.mp hsh
      refine wpAny_bind (wpAny_bind (wpAny_loadPart hd ?_))
      rw [nsLook_of a]
      refine wpAny_pure ?_
      rw [b]
      exact wpAny_bind (wpAny_rule (wpAny_pure h))
theorem check_method {M : Model} {A : Around} {E : Value → Shared → Prop} {s : Shared} {i owner n : String} {self : Value} {rest : List Value} {Q : Unit → Shared → Prop}
    (hk : builtinKind i = some .method) (hs : splitId i = some (owner, n)) (hi : Looks M s.heap (isInstance self (.type owner)) true) (ha : argsOk i ⟨self :: rest, []⟩) (q : Q () s) :
    wpAny M A (checkBuiltinCall i ⟨self :: rest, []⟩) Q E s := by
  simp only [checkBuiltinCall, hk, hs]
  refine wpAny_bind (hi.here ?_)
  simp only [Bool.not_true, Bool.false_eq_true, if_false]
  cases hsig : Manifest.signature? i with
  | none => exact wpAny_pure q
  | some sig =>
    simp only [argsOk, hsig] at ha
    have h2 : Bind.checkArgs i sig ⟨self :: rest, []⟩ = pure () := ha
    show wpAny M A (Bind.checkArgs i sig ⟨self :: rest, []⟩) Q E s
    rw [h2]; exact wpAny_pure q
theorem replR {prog : Program} {w : World} {A : Around} {E : Value → Shared → Prop} {s : Shared} {K : Frag} {O dd : Addr} {od : Option Obj} {x y z : Str} {t u v : Tok} {sl : Array (Option Value)} {Q : Value → Shared → Prop} (X : K.In s.heap) (I : InstAt s.heap O (vtObj dd x t sl) 335 od) (hs : mroIn K 335 (.type "str") = some true)
    (hu : u ≠ 0) (hv : v ≠ 0) (huv : u ≠ v) (hyz : (y == z) = false) (hx : x.length ≤ 1048576) (hz : z.length ≤ 2) (hp : 1 ≤ s.toks)
    (hq : ∀ t' k r, 1 ≤ k → r = Txt.replace x y z → r.length ≤ 3 * x.length + 2 → Q (.str r t') { s with toks := k }) : wpAny (model prog w) A (call (.builtin "str.replace") [.ref O, .str y u, .str z v]) Q E s := by
  have hb : x.length + (x.length + 1) * z.length ≤ 16777216 := by
    have h1 : (x.length + 1) * z.length ≤ (x.length + 1) * 2 := Nat.mul_le_mul_left _ hz
    omega
  have hl : Builtin.Str.tooLong (x.length + (Builtin.Str.occurrences x y 0 x.length (x.length + 1)).length * z.length) = false := by
    have h1 := StrLaws.occ_length_le x y 0 x.length (x.length + 1)
    have h2 : (Builtin.Str.occurrences x y 0 x.length (x.length + 1)).length * z.length ≤ (x.length + 1) * z.length := Nat.mul_le_mul_right _ h1
    unfold Builtin.Str.tooLong
    rw [sizeLine_eq]
    exact decide_eq_false (by omega)
  have hr := repl_len x y z hz
  have L1 : Looks (model prog w) s.heap (isInstance (.ref O) (.type "str")) true := I.type.andThen (looks_mroIn X hs)
  obtain ⟨hh, g, d, tt, os⟩ := s
  refine wpAny_call (codeAny_call_builtin F.slot_str_replace.plain F.entry_str_replace (check_method (owner := "str") (n := "replace") (by decide +kernel) (by decide +kernel) L1 (F.args_str_replace_3 _ _ _) ?_))
  have hat := I.at_
  show wpAny _ _ (Builtin.Str.strSelf _ >>= _) _ _ _
  refine wpAny_bind ?_
  unfold Builtin.Str.strSelf
  refine wpAny_bind ?_
  unfold Builtin.Str.textOf
  refine wpAny_bind ?_
  unfold asStr?
  show wpAny _ _ (load O >>= _) _ _ _
  refine wpAny_bind (wpAny_load hat (wpAny_pure (wpAny_pure (wpAny_pure ?_))))
  show wpAny _ _ (if ((Builtin.Str.occurrences x y 0 x.length (x.length + 1)).isEmpty || (y.length == 0 && z.length == 0)) = true then (do rule "str.replace.nothing"; ret (← mkStr x)) else
          (do let same ← isSame (.str y u) (.str z v)
              if same = true then (do rule "str.replace.old-is-new"; ret (← mkStr x)) else
              if Builtin.Str.tooLong (x.length + (Builtin.Str.occurrences x y 0 x.length (x.length + 1)).length * z.length) = true then unsupported "str.replace:memory" else
              retStr (Builtin.Str.glued z (Builtin.Str.partsBetween x (Builtin.Str.occurrences x y 0 x.length (x.length + 1)) y.length)))) _ _ _
  have hq' := fun t' k hk => hq t' k _ hk rfl hr
  unfold Txt.replace at hq' hr
  cases hc : ((Builtin.Str.occurrences x y 0 x.length (x.length + 1)).isEmpty || (y.length == 0 && z.length == 0))
  · rw [hc] at hq' hr
    simp only [Bool.false_eq_true, if_false] at hq' hr ⊢
    rw [isSame_str_other y z u v (by simp [hu, hv]) (by simp [huv]) hyz]
    refine wpAny_bind (wpAny_pure ?_)
    rw [if_neg Bool.false_ne_true, hl, if_neg Bool.false_ne_true]
    unfold retStr mkStr
    rw [if_neg (by rw [sizeLine_eq]; omega)]
    exact wpAny_bind (wpAny_bind (wpAny_fresh (wpAny_pure (wpAny_pure (hq' tt (tt + 1) (by omega))))))
  · rw [hc] at hq' hr
    simp only [if_true] at hq' hr ⊢
    unfold mkStr
    rw [if_neg (by rw [sizeLine_eq]; omega)]
    exact wpAny_bind (wpAny_rule (wpAny_bind (wpAny_bind (wpAny_fresh (wpAny_pure (wpAny_pure (hq' tt (tt + 1) (by omega))))))))
theorem clsOfMro {K : Frag} {D : Addr} {t : Value} {b : Bool} (h : mroIn K D t = some b) : (clsIn K D).isSome = true := by
  unfold mroIn at h
  cases hc : clsIn K D with
  | none => rw [hc] at h; cases h
  | some _ => rfl
theorem findObj_bare {K : Frag} {C : Addr} {od : Option Obj} {name : Str} {a g : Value} (hc : (clsIn K C).isSome = true) (ha : findIn K (.ref C) name = some (some a)) (hg : specialIn K a "__get__" = some (some g)) (ht : takesIn K a = some true) : findObj K C od name = some (.bind g a) := by
  obtain ⟨cd, hc⟩ := Option.isSome_iff_exists.mp hc
  unfold findObj
  rw [hc, Option.bind_some, ha, Option.bind_some]
  simp [hg, ht]
theorem kitx_bare {K : Frag} {x D : Addr} {ox : Obj} {od : Option Obj} (hg : findIn K (.ref D) "__getattribute__" = some (some (.builtin "object.__getattribute__"))) (hk : findIn K (.ref D) "__getattr__" = some none) (ha : findIn K (.ref D) "__class__" = some (some (.builtin "object.__class__")))
    (hn : specialIn K (.builtin "object.__class__") "__get__" = some (some (.builtin "getset_descriptor.__get__"))) (htk : takesIn K (.builtin "object.__class__") = some true) (hm : mroIn K D (.type "object") = some true) : KitX K (.ref x) (.ref D) (fun h => InstAt h x ox D od) where
  ty := fun _ _ _ I => I.type
  it := fun _ _ X _ => by
    have hc := clsOfMro hm
    unfold clsIn at hc
    split at hc
    · rename_i c' d' cd' sl' ho
      intro A' Q' E' s' k q
      unfold isType loadHead
      exact wpAny_bind (wpAny_loadPart (k _ _ (X _ _ ho)) (wpAny_pure q))
    · cases hc
  ne := fun h tp dd its n sl X htp => by
    refine Bool.eq_false_iff.mpr fun q => ?_
    have e : D = tp := Value.ref.inj (beq_iff_eq.mp q)
    subst e
    have hc := clsOfMro hm
    unfold clsIn at hc
    split at hc
    · rename_i c' d' cd' sl' ho
      have z := (X _ _ ho).symm.trans htp
      cases z
    · cases hc
  ca := fun {_ _ _ _ _ s} X I h => kin_open X I hg (kin_hooked (s := { s with toks := s.toks + 1 }) X I (findObj_bare (clsOfMro hm) ha hn htk) hk
    (wpAny_call (class_get (s := { s with toks := s.toks + 1 }) (ox := ox) (od := od) X I hm (handed_on rfl h))))
end
section
abbrev bfm (a : Addr) : Obj := { cls := .type "builtin_function_or_method", data := .fields #[.builtin "dict.items", .ref a] }
section
variable {prog : Program} {w : World} {A : Around} {E : Value → Shared → Prop} {h : Heap} {g : Array GenState} {d : Drawn} {t : Nat} {os : OsState} {a : Addr} {o : Obj}
theorem md_get_lookup : typeLookup (.type "method_descriptor") (Str.ofString "__get__") = pure (some (.builtin "method_descriptor.__get__")) := by rw [typeLookup_type, builtinLookup_eq_fast]; kernel_rfl
theorem md_set_lookup : typeLookup (.type "method_descriptor") (Str.ofString "__set__") = pure none := by rw [typeLookup_type, builtinLookup_eq_fast]; kernel_rfl
theorem md_del_lookup : typeLookup (.type "method_descriptor") (Str.ofString "__delete__") = pure none := by rw [typeLookup_type, builtinLookup_eq_fast]; kernel_rfl
theorem md_get_entry : entryFor table "method_descriptor.__get__" = some Builtin.«method_descriptor.__get__» := entryFor_of_fast (by kernel_rfl)
theorem md_args (a b c : Value) : argsOk "method_descriptor.__get__" ⟨[a, b, c], []⟩ := by unfold argsOk; kernel_rfl
theorem md_slot : Slot "method_descriptor" "__get__" "method_descriptor.__get__" :=
  Slot.of (T := "method_descriptor") (name := "__get__") (owner := "method_descriptor") (n := "__get__") (by rw [typeLookup_type, builtinLookup_eq_fast]; kernel_rfl) (by decide +kernel) (by decide +kernel) (by decide +kernel)
    (.inl (by decide +kernel)) (by rw [isSubtype_type]; kernel_rfl)
theorem items_get {R : Result → Shared → Prop} (hx : h.get? a = some o) (hc : o.cls = .type "dict") (hq : R (.ok (.ret (.ref h.objs.size))) ⟨h.push (bfm a), g, d, t, os⟩) :
    codeAny (model prog w) A (.call (.builtin "method_descriptor.__get__") ⟨[.builtin "dict.items", .ref a, .type "dict"], []⟩) R ⟨h, g, d, t, os⟩ := by
  have hT : (⟨h, g, d, t, os⟩ : Shared).TypeIs (.ref a) "dict" := ⟨_, hx, hc⟩
  have hT5 : (⟨h, g, d, t, os⟩ : Shared).TypeIs (.builtin "dict.items") "method_descriptor" := F.type_dict_items
  have f9 : isSubtype (.type "dict") (.type (".".intercalate ("dict.items".cutAt '.').dropLast)) = pure true := by
    rw [show ".".intercalate ("dict.items".cutAt '.').dropLast = "dict" from by decide +kernel, isSubtype_type]; kernel_rfl
  refine codeAny_call_builtin md_slot.plain md_get_entry (md_slot.check _ _ _ _ _ _ _ _ hT5 (md_args _ _ _) ?_)
  repeat (any_goals (first | assumption | wp_step))
theorem items_entry {tk : Tok} {Q : Fin → Shared → Prop} {es : Array DictEntry} {n : Nat} {sl : Array (Option Value)} (hx : h.get? a = some ⟨.type "dict", none, .dict es n, sl⟩) (hq : Q (.done (.ret (.ref h.objs.size))) ⟨h.push (bfm a), g, d, t, os⟩) :
    wpAny (model prog w) A (Builtin.«object.__getattribute__» ⟨[.ref a, .str (Str.ofString "items") tk], []⟩) Q E ⟨h, g, d, t, os⟩ := by
  have hT : (⟨h, g, d, t, os⟩ : Shared).TypeIs (.ref a) "dict" := ⟨_, hx, rfl⟩
  have hT5 : (⟨h, g, d, t, os⟩ : Shared).TypeIs (.builtin "dict.items") "method_descriptor" := F.type_dict_items
  have f4 := F.slot_dict_items.lookup
  have f5 := F.type_dict_items
  have f6 := md_get_lookup
  have f7 := md_set_lookup
  have f8 := md_del_lookup
  repeat (any_goals (first | assumption | wp_step))
  exact items_get hx rfl (wpAny_pure hq)
theorem items_has {tk : Tok} {Q : Value → Shared → Prop} {es : Array DictEntry} {n : Nat} {sl : Array (Option Value)} (hx : h.get? a = some ⟨.type "dict", none, .dict es n, sl⟩) (hq : Q (.bool true) ⟨h.push (bfm a), g, d, t, os⟩) :
    wpAny (model prog w) A (call (.builtin "hasattr") [.ref a, .str (Str.ofString "items") tk]) Q E ⟨h, g, d, t, os⟩ := by
  have hT : (⟨h, g, d, t, os⟩ : Shared).TypeIs (.ref a) "dict" := ⟨_, hx, rfl⟩
  refine call_function_entry (by decide +kernel) (by decide +kernel) (entryFor_of_fast (by kernel_rfl) : entryFor table "hasattr" = some Builtin.«hasattr») (by unfold argsOk; kernel_rfl) ?_
  unfold Builtin.«hasattr»
  refine wpAny_bind (m := someArgs "hasattr" 2 2 _) (wpAny_of_eq (a := [Value.ref a, Value.str (Str.ofString "items") tk]) (by first | rfl | kernel_rfl!) ?_)
  dsimp only
  have f1 := F.slot_dict_items.lookup
  k_delta "attrName"
  have e1 : asStr? (Value.str (Str.ofString "items") tk) = pure (some (Str.ofString "items")) := rfl
  have f2 := F.slot_dict_getattribute.lookup
  have f3 : isSubtype (.type "dict") (.type "module") = pure false := by rw [isSubtype_type]; kernel_rfl
  have f4 := F.slot_dict_getattribute.bind (.ref a)
  repeat (any_goals (first | assumption | wp_step))
  all_goals (k_delta "optionalOnAModule")
  repeat (any_goals (first | assumption | wp_step))
  refine codeAny_call_builtin F.slot_dict_getattribute.plain F.entry_dict_ga (F.slot_dict_getattribute.check _ _ _ _ _ _ _ _ hT (F.args_dict_getattribute_2 _ _) (items_entry hx ?_))
  have hb : (h.push (bfm a)).get? h.objs.size = some (bfm a) := Heap.get?_push_size _ rfl
  repeat (any_goals (first | assumption | wp_step))
  exact ⟨_, rfl, hq⟩
end
end
section
section
variable {prog : Program} {w : World} {A : Around} {E : Value → Shared → Prop} {s : Shared} {h₀ : Heap} {L : Addr} {m : Str → Option Value} {news : List (Addr × Obj)} {K : Type} [DecidableEq K] {knd : KeyKind prog w K}
/-- a loop over a list, whatever it holds -/
theorem iter_listV {env : Env} {x : Str} {body : List Stmt} {Q : Flow → Shared → Prop} {l : Addr} {vs : List Value} {m₀ : Str → Option Value} (J : Nat → (Str → Option Value) → List (Addr × Obj) → Prop)
    (hh : A.handled = none) (hl : s.heap.IsList l vs.toArray) (hlL : l ≠ env.locals) (hln : ∀ p ∈ news, p.1 ≠ l) (F : Fr h₀ env.locals s.heap m₀) (N : News h₀ env.locals s.heap news) (hj : J 0 m₀ news)
    (turn : ∀ (i : Nat) v m₁ news₁ h tk own, vs[i]? = some v → news₁.map (·.1) = news.map (·.1) → OwnOff own (news.map (·.1)) → J i m₁ news₁ → Fr h₀ env.locals h (fun y => if y = x then some v else m₁ y) → News h₀ env.locals h (news₁ ++ own) →
      wpAny (model prog w) A (execs body env) (InvPostN h₀ env.locals (J (i + 1)) own (news.map (·.1)) { s with heap := h, toks := tk } Q) E { s with heap := h, toks := tk })
    (done : ∀ m₁ news₁ h tk, J vs.length m₁ news₁ → Fr h₀ env.locals h m₁ → News h₀ env.locals h news₁ → Q .next { s with heap := h, toks := tk }) :
    wpAny (model prog w) A (pyIter (.ref l)) (fun it s₂ => LoopAtV prog w A h₀ env x body Q E it s₂) E s := by
  obtain ⟨ol, hol, _⟩ := id hl
  have hne : l ≠ s.heap.objs.size := Nat.ne_of_lt (Heap.lt_size hol)
  refine wpAny_pyIter_list hl ?_
  have W := Walks.list (prog := prog) (w := w) hh s.heap.objs.size l hne vs.toArray
  refine loop_invN J W ?_ ?_ ?_ ?_ ⟨⟨_, Heap.get?_push_size _ rfl, rfl, rfl⟩, hl.at fun o e => Heap.get?_push_of_some _ e⟩ (F.push _) (fun p hp => ⟨Heap.get?_push_of_some _ (N p hp).1, (N p hp).2⟩) hj ?_ ?_
  · intro hm
    rcases List.mem_cons.mp hm with e | hm
    · exact absurd F.ns.lt (e ▸ Nat.lt_irrefl _)
    · exact hlL (List.mem_singleton.mp hm).symm
  · intro b hb
    rw [List.mem_singleton.mp hb]
    exact next_is_new F
  · intro p hp hI
    exact absurd (Heap.lt_size (N p hp).1) ((List.mem_singleton.mp hI) ▸ Nat.lt_irrefl _)
  · intro p hp hI
    rcases List.mem_cons.mp hI with e | hI
    · exact absurd (Heap.lt_size (N p hp).1) (e ▸ Nat.lt_irrefl _)
    · exact hln p hp (List.mem_singleton.mp hI)
  · intro i v m₁ nx h tk own hi hv ha ho hJ F₁ N₁
    exact turn i v m₁ nx h tk own (by simpa using hv) ha ho hJ F₁ N₁
  · intro m₁ nx h tk hJ F₁ N₁
    exact done m₁ nx h tk (by simpa using hJ) F₁ N₁
/-- iter(d.items()) -/
theorem iter_view {v d : Addr} {o : Obj} {kvs : List (K × Value)} {Q : Value → Shared → Prop} (F : Fr h₀ L s.heap m) (N : News h₀ L s.heap news) (hv : (v, ({ cls := .type "dict_items", data := .fields #[.ref d] } : Obj)) ∈ news) (hp : (d, o) ∈ news) (hd : o.IsDictOf knd kvs)
    (h : ∀ (I : Addr) h' oI (ep : Nat), Fr h₀ L h' m → News h₀ L h' ((I, oI) :: news) → (∀ p ∈ news, p.1 < I) → oI = { cls := .type "dict_itemiterator", data := .fields #[.none, .bool false, .ref d, .int 0 0, .int kvs.length 0, .int ep 0, .none, .none] } → KdkAt knd o kvs ep → Q (.ref I) { s with heap := h' }) :
    wpAny (model prog w) A (call (.builtin "iter") [.ref v]) Q E s := by
  obtain ⟨ep, ha⟩ := KdkAt.of hd
  refine call_function_entry (by decide +kernel) (by decide +kernel) kdk_entry_iter (kdk_args_iter _) ?_
  unfold Builtin.«iter»
  refine wpAny_bind (m := someArgs "iter" 1 2 _) (wpAny_of_eq (a := [Value.ref v]) (by first | rfl | kernel_rfl!) ?_)
  show wpAny _ _ (pyIter (.ref v) >>= _) _ _ _
  refine wpAny_bind (wpAny_pyIter_items ⟨_, (N _ hv).1, rfl, rfl⟩ (ha.dictAt (N _ hp).1) ?_)
  exact wpAny_pure ⟨_, rfl, h _ _ _ ep (F.push _) (News.push F N _ rfl) (fun q hq => Heap.lt_size (N q hq).1) rfl ha⟩
/-- a loop over such an iterator of an empty dict -/
theorem for_none {env : Env} {target : Expr} {body : List Stmt} {Q : Flow → Shared → Prop} {it d : Addr} {o : Obj} {ep : Nat} {iter : Expr} {pos : Pos} (hh : A.handled = none)
    (he : wpAny (model prog w) A (eval iter env) (fun xv s₁ => Stop (xv = .ref it ∧ ∃ m news, Fr h₀ L s₁.heap m ∧ News h₀ L s₁.heap news ∧ (it, ({ cls := .type "dict_itemiterator", data := .fields #[.none, .bool false, .ref d, .int 0 0, .int (0 : Nat) 0, .int ep 0, .none, .none] } : Obj)) ∈ news ∧ (d, o) ∈ news ∧ KdkAt knd o [] ep ∧
      (∀ h', Heap.ExtBut it s₁.heap h' → Q .next { s₁ with heap := h' }))) E s)
    (hs : ∀ x, foldedSetIterable iter env x = pure x := by intro _; rfl) (hE : PassesOwn (model prog w) A env E := by passes_own) :
    wpAny (model prog w) A (exec (.For target iter body [] pos) env) Q E s := by
  refine wpAny_For (wpAny_mono he (fun xv s₁ h₁ => ?_) fun _ _ e => e) hs
  obtain ⟨rfl, m, news, F, N, hi, hd, ha, k⟩ := h₁
  have hT : s₁.TypeIs (.ref it) "dict_itemiterator" := ⟨_, (N _ hi).1, rfl⟩
  refine wpAny_pyIter_slot hT PySem.F.slot_dict_itemiterator_iter (wpAny_call_entry PySem.F.slot_dict_itemiterator_iter hT (entryFor_alias (id' := "dict_keyiterator.__iter__") (by kernel_rfl) (by first | rfl | decide +kernel) (by decide +kernel) (by kernel_rfl) : entryFor table "dict_itemiterator.__iter__" = some Builtin.«dict_keyiterator.__iter__») ?_ (PySem.F.args_dict_itemiterator_iter_1 _))
  unfold Builtin.«dict_keyiterator.__iter__»
  refine wpAny_of_eq (a := .done (.ret (.ref it))) (by first | rfl | kernel_rfl!) ?_
  refine ⟨_, rfl, _, _, hT, PySem.F.slot_dict_itemiterator_next.lookup, ?_⟩
  refine codeAny_forLoop_any (fun n s' => s' = s₁) ?_ 0 rfl
  rintro n s' rfl
  refine wpAny_pyNext_items_end hh (N _ hi).1 (ha.dictAt (N _ hd).1) rfl (fun h' he' => ?_)
  exact wpAny_execs_nil (k h' he')
/-- a loop over the items of an empty dict -/
theorem for_view {env : Env} {target : Expr} {body : List Stmt} {Q : Flow → Shared → Prop} {d : Addr} {o : Obj} {iter : Expr} {pos : Pos} (hh : A.handled = none) (ho : o.IsDictOf knd [])
    (he : wpAny (model prog w) A (eval iter env) (fun xv s₁ => Stop (∃ v m news, xv = .ref v ∧ Fr h₀ L s₁.heap m ∧ News h₀ L s₁.heap news ∧ (v, ({ cls := .type "dict_items", data := .fields #[.ref d] } : Obj)) ∈ news ∧ (d, o) ∈ news ∧
      (∀ h', Fr h₀ L h' m → News h₀ L h' news → Q .next { s₁ with heap := h' }))) E s)
    (hs : ∀ x, foldedSetIterable iter env x = pure x := by intro _; rfl) (hE : PassesOwn (model prog w) A env E := by passes_own) :
    wpAny (model prog w) A (exec (.For target iter body [] pos) env) Q E s := by
  refine wpAny_For (wpAny_mono he (fun xv s₁ h₁ => ?_) fun _ _ e => e) hs
  obtain ⟨v, m, news, rfl, F, N, hv, hd, k⟩ := h₁
  obtain ⟨ep, ha⟩ := KdkAt.of ho
  refine wpAny_pyIter_items ⟨_, (N _ hv).1, rfl, rfl⟩ (ha.dictAt (N _ hd).1) ?_
  have F1 := F.push ({ cls := .type "dict_itemiterator", data := .fields #[.none, .bool false, .ref d, .int 0 0, .int (([] : List (K × Value)).length : Nat) 0, .int ep 0, .none, .none] } : Obj)
  have N1 := News.push F N ({ cls := .type "dict_itemiterator", data := .fields #[.none, .bool false, .ref d, .int 0 0, .int (([] : List (K × Value)).length : Nat) 0, .int ep 0, .none, .none] } : Obj) rfl
  have lI : ∀ p ∈ news, p.1 ≠ s₁.heap.objs.size := fun p hp => Nat.ne_of_lt (Heap.lt_size (N p hp).1)
  refine codeAny_forLoop_any (fun n s' => s' = { s₁ with heap := s₁.heap.push { cls := .type "dict_itemiterator", data := .fields #[.none, .bool false, .ref d, .int 0 0, .int (([] : List (K × Value)).length : Nat) 0, .int ep 0, .none, .none] } }) ?_ 0 rfl
  rintro n s' rfl
  refine wpAny_pyNext_items_end hh (N1 _ (.head _)).1 (ha.dictAt (N1 _ (.tail _ hd)).1) rfl (fun h' he' => ?_)
  refine wpAny_execs_nil (k h' ⟨F1.ns.at' fun o' e => he' _ _ (Ne.symm (N1 _ (.head _)).2.1) e, fun b o' e => he' b o' (fun q => by rw [q] at e; exact absurd ((N1 _ (.head _)).2.2.symm.trans e) (by simp)) (F1.keep b o' e), F1.above⟩
    (fun p hp => ⟨he' _ _ (lI p hp) (N1 p (.tail _ hp)).1, (N p hp).2⟩))
end
end
section
theorem off_Pma : True := by
  w_top off
  exact trivial
local macro_rules | `(tactic| walk_at "p_enter") => `(tactic| (k_dflt (refine' pureCall _ ?k1 ?k2 ?k3 ?k4 ?k5 ?kF ?kK ?k6 ?k7 ?k8 ?k9 ?kB ?c5 ?c2 ?c3 ?c4 ?cp ?_; (case cp => first | assumption | ((try dsimp only); omega)); (case kF => exact rfl); (case kK => first | assumption | exact rfl); (case k1 => k_asm); (case k2 => k_asm); (case k3 => k_asm); (case k4 => k_asm); (case k5 => k_asm); (case k6 => k_is); (case k7 => k_is); (case k8 => ktr_room); (case k9 => first | exact BindsTo.of_eq rfl | exact binds_K (by k_in) rfl (by k_is) rfl rfl rfl); (case c5 => decide); (case kB => exact locs rfl); (case c2 => exact rfl); (case c3 => exact rfl); (case c4 => exact rfl); k_whole; intro g' L' h' tk' htk' F' N' B' X' T' hin'; (try dsimp only); (try k_fold))))
local macro_rules | `(tactic| walk_at "h_enter") => `(tactic| (k_dflt ((case cp => first | assumption | ((try dsimp only); omega)); (case k1 => k_asm); (case k2 => k_asm); (case k3 => k_asm); (case kF => exact rfl); (case kK => first | assumption | exact rfl); (case k5 => k_asm); (case k6 => k_is); (case k7 => k_is); (case k8 => ktr_room); (case k9 => first | exact BindsTo.of_eq rfl | exact binds_K (by k_in) rfl (by k_is) rfl rfl rfl); (case c5 => decide); (case kB => exact locs rfl); (case c2 => exact rfl); (case c3 => exact rfl); (case c4 => exact rfl); k_whole; intro g' L' h' tk' htk' F' N' B' X' T' hin'; (try dsimp only); (try k_fold))))
local macro_rules | `(tactic| walk_at "execs cons") => `(tactic| (k_here; (with_reducible refine wpAny_execs_cons ?_); try dsimp only))
local macro_rules | `(tactic| walk_at "execs cons") => `(tactic| (k_here; (with_reducible refine execs_consT ?hp ?_); (case hp => ((try dsimp only); omega)); try dsimp only))
local macro_rules | `(tactic| walk_at "TokOk") => `(tactic| (intro hpT; (try dsimp only at hpT); (try dsimp only)))
local macro_rules | `(tactic| walk_at "call builtin:str.replace") => `(tactic| ((with_reducible show wpAny _ _ (call (Value.builtin "str.replace") [Value.str _ _, Value.str _ _, Value.str _ _]) _ _ _); (refine replN ?k0 ?k1 ?k2 ?k3 ?k4 ?k5 ?k6 ?_; (case k0 => (try dsimp only); omega); (case k1 => show @Ne Nat _ _; omega); (case k2 => show @Ne Nat _ _; omega); (case k3 => show @Ne Nat _ _; omega); (case k4 => decide); (case k5 => omega); (case k6 => decide)); intro _ _ _ _ _ _; (try dsimp only)))
local macro_rules | `(tactic| walk_at "exec For Name Subscript cons nil") => `(tactic| (k_here; refine stop_ ?_))
local macro_rules | `(tactic| walk_at "exec For Name Call cons nil") => `(tactic| (k_here; refine stop_ ?_))
local macro_rules | `(tactic| walk_at "exec While Compare cons nil") => `(tactic| (k_here; refine stop_ ?_))
local macro_rules | `(tactic| walk_at "exec While BoolOp cons nil") => `(tactic| (k_here; refine stop_ ?_))
local macro_rules | `(tactic| walk_at "call ref") => `(tactic| (k_here; refine stop_ ?_))
local macro_rules | `(tactic| walk_at "call ref cons nil") => `(tactic| (k_here; refine stop_ ?_))
local macro_rules | `(tactic| walk_at "call ref nil nil") => `(tactic| (k_here; refine stop_ ?_))
local macro_rules | `(tactic| walk_at "pyIter ref") => `(tactic| (k_here; refine stop_ ?_))
local macro_rules | `(tactic| walk_at "subscriptTail Name Call ref int") => `(tactic| (k_here; refine stop_ ?_))
local macro_rules | `(tactic| walk_at "InvPostN") => `(tactic| (refine stop_ ?_))
local macro_rules | `(tactic| walk_at "InvPostN next") => `(tactic| (refine stop_ ?_))
local macro_rules | `(tactic| walk_at "InvPostN cont") => `(tactic| (refine stop_ ?_))
local macro_rules | `(tactic| walk_at "InvEndN") => `(tactic| (refine stop_ ?_))
local macro_rules | `(tactic| walk_at "CompSrc") => `(tactic| (refine stop_ ?_))
local macro_rules | `(tactic| walk_at "CompSrc ref") => `(tactic| (refine stop_ ?_))
/-- a call of a def with *args and **kwargs, without keywords -/
theorem bothCall {prog : Program} {w : World} {A₀ : Around} {s : Shared} {K : Frag} {L : Addr} {h₀ base : Heap} {m mg mb : Str → Option Value} {news : List (Addr × Obj)} {p : Program} {loose : List Str} {mean : ExcName → Option Value} {dp un : Nat} {gd : Option (List Code)} {R : Result → Shared → Prop}
    {env : Env} {outer : List Env} {name qual : Str} {params : Arguments} {body : List Stmt} {scope : Scope} {cl : List (Str × Addr)} {dV kV doc pm cdv ct oc : Value} {an od : Option Addr} {osl : Array (Option Value)} {f : Addr} {args vs : List Value} {nm nr : Str} {front : List (Str × Value)} {g₁ : Addr → Sem (List (Str × Value))} {g₂ : Addr → Addr → Sem (List (Str × Value))}
    (B : Below A₀ base outer h₀) (F : Fr h₀ L s.heap m) (X₀ : K.In h₀) (N : News h₀ L s.heap news) (T : Top p loose mean mg mb h₀) (hf : env.frame = some L) (hke : env.scope.kind = .function)
    (ho : K.lookup f = some ⟨oc, od, .func (fnX name qual params body scope cl dV kV doc pm an cdv ct), osl⟩) (hcd : codeIn K cdv qual = true) (hroom : dp < recursionLimit)
    (hv : args.drop (params.posonlyargs.length + params.args.length) = vs) (hnr : params.vararg.map (·.arg) = some nr) (hnm : params.kwarg.map (·.arg) = some nm)
    (_hfr : peek K ⟨prog, w.params⟩ (bindArgs (fnCut (fnX name qual params body scope cl dV kV doc pm an cdv ct)) (argsCut params ⟨args, []⟩)) = some front)
    (hp : peekA K ⟨prog, w.params⟩ (bindArgs (fnX name qual params body scope cl dV kV doc pm an cdv ct) ⟨args, []⟩) = some (({ cls := .type "tuple", data := .seq vs.toArray } : Obj), g₁))
    (hp₂ : ∀ D, peekA K ⟨prog, w.params⟩ (g₁ D) = some (dictOf [] 0, g₂ D))
    (hk₂ : ∀ C D, g₂ C D = (forIn ([] : List (Str × Value)) PUnit.unit (fun x _ => (nsSet D x.1 x.2 >>= fun _ => pure (ForInStep.yield PUnit.unit))) >>= fun _ => pure (front ++ [(nr, Value.ref C)] ++ [(nm, Value.ref D)])))
    (hloc : ∀ C D, ∀ y ∈ front ++ [(nr, Value.ref C)] ++ [(nm, Value.ref D)], scope.names.lookup y.1 = some .local)
    (hcell : ∀ x ∈ scope.names, x.2 ≠ .cell) (hco : scope.isCoroutine = false) (hgen : scope.isGenerator = false) (hk : scope.kind = .function)
    (h : ∀ C D o g L' h₁ tk, (∀ p ∈ news, p.1 < C) → C < D → (D == sysModules) = false → o.IsDictOf (strKind prog w) [] → Fr h₀ L g m → Fr g L' h₁ (fun y => (front ++ [(nr, Value.ref C)] ++ [(nm, Value.ref D)]).reverse.lookup y) →
      News g L' h₁ ((D, o) :: (C, ({ cls := .type "tuple", data := .seq vs.toArray } : Obj)) :: news) → Below { handled := none, depth := dp, frames := some (env :: outer), guards := gd, units := un } base (env :: outer) g → K.In g → Top p loose mean mg mb g →
      wpAny (model prog w) (Around.deeper { handled := none, depth := dp, frames := some (env :: outer), guards := gd, units := un } (envX qual scope L' f cdv cl)) (execs body (envX qual scope L' f cdv cl))
        (fun fl s' => LeaveP h₀ L m [] g (fun v s' => R (.ok (.ret v)) s') (match fl with | .ret v => v | _ => .none) s') (fun _ _ => False) { s with heap := h₁, toks := tk }) :
    codeAny (model prog w) { handled := none, depth := dp, frames := some (env :: outer), guards := gd, units := un } (.call (.ref f) ⟨args, []⟩) R s := by
  refine kpc_both (A := { handled := none, depth := dp, frames := some (env :: outer), guards := gd, units := un }) (ex := []) (DD := []) B F X₀ N T rfl hf hke ho hcd hroom hv rfl hnr hnm rfl .nil _hfr hp hp₂ hk₂ hloc (fun C D o g L' h₁ tk l1 l2 hs ho' hD FG F' N' B' X' T' => ?_) hco hgen hk hcell
  refine wpAny_mono (h C D o g L' h₁ tk l1 l2 hs ho' FG F' N' B' X' T') (fun fl s' hl => ?_) fun _ _ y => y.elim
  obtain ⟨L2, m2, news2, F2, N2, k⟩ := hl
  exact ⟨L2, m2, news2, F2, N2, fun F3 N3 => k F3 (by rw [List.append_nil]; exact N3)⟩
local macro_rules | `(tactic| walk_at "b_enter") => `(tactic| (k_dflt (refine' bothCall ?k1 ?k2 ?k3 ?k4 ?k5 ?kF ?kK ?k6 ?k7 ?k8 ?kV ?kQ ?kM ?kR ?kP ?kS ?kT ?kB ?c5 ?c2 ?c3 ?c4 ?_; (case kF => exact rfl); (case kK => first | assumption | exact rfl); (case k1 => k_asm); (case k2 => k_asm); (case k3 => k_asm); (case k4 => k_asm); (case k5 => k_asm); (case k6 => k_is); (case k7 => k_is); (case k8 => ktr_room); (case kV => kp_lit); (case kQ => exact rfl); (case kM => exact rfl); (case kR => exact rfl); (case kP => exact rfl); (case kS => exact fun _ => rfl); (case kT => exact fun _ _ => rfl); (case kB => exact fun _ _ => locs rfl); (case c5 => decide); (case c2 => exact rfl); (case c3 => exact rfl); (case c4 => exact rfl); k_whole; intro C' D' o' g' L' h' tk' l1 l2 hs' lo' FG' F' N' B' X' T'; (try dsimp only); (try k_fold))))
local macro_rules | `(tactic| walk_at "call builtin:hasattr") => `(tactic| (k_here; refine stop_ ?_))
local macro_rules | `(tactic| walk_at "call builtin:iter") => `(tactic| (k_here; refine stop_ ?_))
local macro_rules | `(tactic| walk_at "exec For Tuple Name cons nil") => `(tactic| (k_here; refine stop_ ?_))
local macro_rules | `(tactic| walk_at "exec For Name Name cons nil") => `(tactic| (k_here; refine stop_ ?_))
section
variable {w : World} {mean : ExcName → Option Value} {mg mb : Str → Option Value} {dp un : Nat} {gd : Option (List Code)} {cn : Str} {cs : Scope} {a : Addr} {ccd : Value} {cl : List (Str × Addr)} {outer : List Env} {A₀ : Around} {base h₀ : Heap} {L : Addr} {m : Str → Option Value} {s : Shared} {R : Result → Shared → Prop} {news : List (Addr × Obj)}
theorem update_call (P : Addr) (B : Below A₀ base outer h₀) (F : Fr h₀ L s.heap m) (X : (hd.heap_39 w.params).In h₀) (N : News h₀ L s.heap news) (T : TopC mean mg mb h₀) (hk : cs.kind = .function) (hd : dp + 10 < recursionLimit) (hu : un + 80 < cLine)
   (h : ∀ h' tk', Fr h₀ L h' m → News h₀ L h' news → R (.ok (.ret .none)) { s with heap := h', toks := tk' }) :
   codeAny (model PG w) (ktrTop dp un gd cn cs L a ccd cl outer) (.call (.ref 164) ⟨[.ref P], []⟩) R s := by
  walk_at "b_enter"
  rename_i C D o g L1 h1 tk1 l1 l2 hs lo FG F1 N1 B1 X1 T1
  k_steps
  refine go_ ?_
  rename Fr g _ _ _ => F2
  rename News g _ _ _ => N2
  with_unfolding_all refine' For_invVF F2 rfl rfl ?_
  k_steps
  refine go_ ?_
  have N3 : News g L1 _ ((D, o) :: news) := fun p hp => N2 p (by
    rcases List.mem_cons.mp hp with rfl | hp
    · exact .tail _ (.tail _ (.tail _ (.head _)))
    · exact .tail _ (.tail _ (.tail _ (.tail _ (.tail _ hp)))))
  refine iter_listV (vs := [.ref D]) (fun _ _ nx => nx = (D, o) :: news) rfl (N2.isList (.head _)) (N2 _ (.head _)).2.1 (fun p hp => ?hap) F2 N3 rfl (fun i v m₁ nx h3 tk3 own hi ha ho hJ F4 N4 => ?_) (fun m₁ nx h3 tk3 hJ F4 N4 => ?_)
  case hap =>
    rcases List.mem_cons.mp hp with rfl | hp
    · exact Nat.ne_of_lt (by omega)
    · exact Nat.ne_of_lt (Nat.lt_trans (l1 p hp) (Nat.lt_trans l2 (by omega)))
  · subst hJ
    have hv : v = .ref D := by
      cases i with
      | zero => simpa using hi.symm
      | succ i => simp at hi
    subst hv
    have F5 := frCanon F4 [(Str.ofString "mapping", .ref D)] (by exact ⟨rfl, trivial⟩)
    clear F2 N2 N3 F4
    k_steps
    refine go_ ?_
    rename Fr g _ _ _ => F6
    rename News g _ _ _ => N6
    obtain ⟨es, ne, ⟨hc, hdn, hsl⟩, hdat, -, -, -⟩ := id lo
    have ho' : o = ⟨.type "dict", none, .dict es ne, #[]⟩ := by
      obtain ⟨c1, c2, c3, c4⟩ := o
      cases hc; cases hdn; cases hsl; cases hdat
      rfl
    refine items_has (es := es) (n := ne) (sl := #[]) (ho' ▸ (N6 _ (.head _)).1) ?_
    have F7 := F6.push (bfm D)
    have N7 := News.push F6 N6 (bfm D)
    clear F6 N6
    k_steps
    refine go_ ?_
    rename Fr g _ _ _ => F8
    rename News g _ _ _ => N8
    refine iter_view (knd := PySem.strKind PG w) F8 N8 (by k_mem) (by k_mem) lo (fun I h9 oI ep F9 N9 l9 hI hat => ?_)
    subst hI
    clear F8 N8
    k_steps
    refine go_ ?_
    rename Fr g _ _ _ => F10
    rename News g _ _ _ => N10
    refine for_none (knd := PySem.strKind PG w) (h₀ := g) (L := L1) (it := I) (d := D) (o := o) (ep := ep) rfl ?_ ?hs ?hE
    case hs => intro _; with_unfolding_all rfl
    case hE => with_unfolding_all passes_own
    k_steps
    have lI : ∀ p ∈ (D, o) :: news ++ own, p.1 ≠ I := fun p hp => Nat.ne_of_lt (l9 p (.tail _ (.tail _ hp)))
    rename Fr g _ _ _ => F10
    rename News g _ _ _ => N10
    refine go_ ⟨rfl, _, _, F10, N10, .head _, .tail _ (.tail _ (.tail _ (.head _))), hat, fun h11 he => ?_⟩
    have hI := N10 _ (.head _)
    have N11 : News g L1 h11 ((D, o) :: news ++ own) := fun p hp => ⟨he _ _ (lI p hp) (N10 p (.tail _ (.tail _ (.tail _ hp)))).1, (N10 p (.tail _ (.tail _ (.tail _ hp)))).2⟩
    have F11 : Fr g L1 h11 _ := ⟨F10.ns.at' fun o' e => he _ _ (Ne.symm hI.2.1) e, fun b o' e => he b o' (fun q => by rw [q] at e; exact absurd (hI.2.2.symm.trans e) (by simp)) (F10.keep b o' e), F10.above⟩
    clear F10 N10 F9 N9
    k_steps
    refine go_ ?_
    exact ⟨_, _, _, _, (D, o) :: news, rfl, F11, N11, fun p hp => List.mem_append_left own hp, fun p hp => List.mem_append_right _ hp, rfl, rfl⟩
  · subst hJ
    clear F2 N2 N3
    k_steps
    refine leaveP_ F4 (news' := _) N4 (fun kF kN => ?_)
    exact h _ _ kF (by rw [List.append_nil] at kN; exact fun p hp => kN p (.tail _ hp))
end
end
section
theorem frameAt {prog : Program} {w : World} {A₀ A : Around} {s : Shared} {base h₀ : Heap} {outer : List Env} {L : Addr} {m : Str → Option Value} {env : Env} {news : List (Addr × Obj)}
  {R : Result → Shared → Prop} {qual : Str} {body : List Stmt} {scope : Scope} {cl : List (Str × Addr)} {cdv : Value} {f : Addr} {binds : List (Str × Value)} {E : Value → Shared → Prop} (B : Below A₀ base outer h₀) (F : Fr h₀ L s.heap m) (N : News h₀ L s.heap news) (hlim : h₀.NoLimit) (hA : A.frames = some (env :: outer)) (hf : env.frame = some L) (hke : env.scope.kind = .function)
    (hloc : ∀ y ∈ binds, scope.names.lookup y.1 = some .local)
    (h : ∀ g L' h₁, Fr h₀ L g m → Fr g L' h₁ (fun y => binds.reverse.lookup y) → News g L' h₁ news → Below A base (env :: outer) g → h₀.StaysIn g →
      _root_.PySem.wpAt (model prog w) (A.deeper (envX qual scope L' f cdv cl)) (.func body (envX qual scope L' f cdv cl)) (execs body (envX qual scope L' f cdv cl))
        (fun fl s' => LeaveK h₀ L m g R (match fl with | .ret v => v | _ => .none) s')
        (fun e s' => wpAny (model prog w) (A.deeper (envX qual scope L' f cdv cl)) (leaving (envX qual scope L' f cdv cl) e) (fun _ s'' => R (.error e) s'') (fun e' s'' => R (.error e') s'') s')
        { s with heap := h₁, toks := s.toks + binds.length })
    (hcell : ∀ x ∈ scope.names, x.2 ≠ .cell) (hk : scope.kind = .function) :
    wpAny (model prog w) A.in1 (newFunctionEnv scope mainGlobals cl binds (qual ++ ".<locals>.") (some f) cdv none builtinsNs) (fun env' s₂ => s₂.heap.NoLimit ∧ codeAny (model prog w) A (.func body env') R s₂) E s := by
  obtain ⟨FG, BG, st, lv⟩ := groundX (R := R) B F N hA hf hke
  refine wpAny_newFunctionEnv hcell hloc (fun h₁ hns hsb => ⟨(hlim.keeps F.keep).fresh _ hsb, ks_codeAny_funcAt ?_⟩) hk
  have hk₁ : ∀ b o, s.heap.get? b = some o → h₁.get? b = some o := fun b o e => hsb.extBut b o (Nat.ne_of_lt (Heap.lt_size e)) (Heap.get?_push_of_some _ e)
  exact ks_wpAt_mono (h _ s.heap.objs.size h₁ FG ⟨hns, fun b o e => hk₁ b o (of_hideAll _ e), Nat.le_of_eq (hideAll_size _ _)⟩
    (fun p hp => ⟨hk₁ _ _ (N p hp).1, Nat.ne_of_lt (Heap.lt_size (N p hp).1), hideAll_none _ (List.mem_map_of_mem hp)⟩) BG st) (fun fl s' hl => lv _ _ hl) fun _ _ y => y
/-- a call of a method with *args and **kwargs, without keywords, that asks for super() -/
theorem bothAt {prog : Program} {w : World} {A₀ : Around} {s : Shared} {K : Frag} {L : Addr} {h₀ base : Heap} {m mg mb : Str → Option Value} {news : List (Addr × Obj)} {p : Program} {loose : List Str} {mean : ExcName → Option Value} {dp un : Nat} {gd : Option (List Code)} {R : Result → Shared → Prop}
    {env : Env} {outer : List Env} {name qual : Str} {params : Arguments} {body : List Stmt} {scope : Scope} {cl : List (Str × Addr)} {dV kV doc pm cdv ct oc : Value} {an od : Option Addr} {osl : Array (Option Value)} {f : Addr} {args vs : List Value} {nm nr : Str} {front : List (Str × Value)} {g₁ : Addr → Sem (List (Str × Value))} {g₂ : Addr → Addr → Sem (List (Str × Value))}
    (B : Below A₀ base outer h₀) (F : Fr h₀ L s.heap m) (X₀ : K.In h₀) (N : News h₀ L s.heap news) (T : Top p loose mean mg mb h₀) (hf : env.frame = some L) (hke : env.scope.kind = .function)
    (ho : K.lookup f = some ⟨oc, od, .func (fnX name qual params body scope cl dV kV doc pm an cdv ct), osl⟩) (hcd : codeIn K cdv qual = true) (hroom : dp < recursionLimit)
    (hv : args.drop (params.posonlyargs.length + params.args.length) = vs) (hnr : params.vararg.map (·.arg) = some nr) (hnm : params.kwarg.map (·.arg) = some nm)
    (_hfr : peek K ⟨prog, w.params⟩ (bindArgs (fnCut (fnX name qual params body scope cl dV kV doc pm an cdv ct)) (argsCut params ⟨args, []⟩)) = some front)
    (hp : peekA K ⟨prog, w.params⟩ (bindArgs (fnX name qual params body scope cl dV kV doc pm an cdv ct) ⟨args, []⟩) = some (({ cls := .type "tuple", data := .seq vs.toArray } : Obj), g₁))
    (hp₂ : ∀ D, peekA K ⟨prog, w.params⟩ (g₁ D) = some (dictOf [] 0, g₂ D))
    (hk₂ : ∀ C D, g₂ C D = (forIn ([] : List (Str × Value)) PUnit.unit (fun x _ => (nsSet D x.1 x.2 >>= fun _ => pure (ForInStep.yield PUnit.unit))) >>= fun _ => pure (front ++ [(nr, Value.ref C)] ++ [(nm, Value.ref D)])))
    (hloc : ∀ C D, ∀ y ∈ front ++ [(nr, Value.ref C)] ++ [(nm, Value.ref D)], scope.names.lookup y.1 = some .local)
    (hcell : ∀ x ∈ scope.names, x.2 ≠ .cell) (hco : scope.isCoroutine = false) (hgen : scope.isGenerator = false) (hk : scope.kind = .function)
    (h : ∀ C D g L' h₁ tk, (∀ p ∈ news, p.1 < C) → C < D → (D == sysModules) = false → Fr h₀ L g m → Fr g L' h₁ (fun y => (front ++ [(nr, Value.ref C)] ++ [(nm, Value.ref D)]).reverse.lookup y) →
      News g L' h₁ ((D, dictOf [] 0) :: (C, ({ cls := .type "tuple", data := .seq vs.toArray } : Obj)) :: news) → Below { handled := none, depth := dp, frames := some (env :: outer), guards := gd, units := un } base (env :: outer) g → K.In g → Top p loose mean mg mb g →
      _root_.PySem.wpAt (model prog w) (Around.deeper { handled := none, depth := dp, frames := some (env :: outer), guards := gd, units := un } (envX qual scope L' f cdv cl)) (.func body (envX qual scope L' f cdv cl)) (execs body (envX qual scope L' f cdv cl))
        (fun fl s' => LeaveP h₀ L m [] g (fun v s' => R (.ok (.ret v)) s') (match fl with | .ret v => v | _ => .none) s') (fun _ _ => False) { s with heap := h₁, toks := tk }) :
    codeAny (model prog w) { handled := none, depth := dp, frames := some (env :: outer), guards := gd, units := un } (.call (.ref f) ⟨args, []⟩) R s := by
  have _ := hv
  have _ := hnr
  have _ := hnm
  have hn' : (([] : List (Str × Value)).map (·.1)).Nodup := List.nodup_nil
  refine codeAny_call_function (A := { handled := none, depth := dp, frames := some (env :: outer), guards := gd, units := un }) (fd := fnX name qual params body scope cl dV kV doc pm an cdv ct) (body := body) hroom ((X₀.keeps F.keep) _ _ ho) rfl hco hgen rfl (codeRec_of (X₀.keeps F.keep) hcd) ?_
  refine wp_of_peekA (o := ({ cls := .type "tuple", data := .seq vs.toArray } : Obj)) F N (X₀.keeps F.keep) rfl _ g₁ hp fun h' F' N' l => ?_
  refine wp_of_peekA (s := { s with heap := h' }) (o := dictOf [] 0) F' N' (X₀.keeps F'.keep) rfl _ (g₂ s.heap.objs.size) (hp₂ _) fun h'' F'' N'' l' => ?_
  rw [hk₂]
  refine wpAny_bind (wpAny_pure (wpAny_pure ?_))
  exact frameAt (cl := cl) (s := { s with heap := h'' }) B F'' N'' T.nolimit rfl hf hke (hloc _ _)
    (fun g L' h₁ FG FL NG BG st => ks_wpAt_mono (h _ _ g L' h₁ _ l (l' _ (.head _)) (F'.notModules (modules_low T.nolimit)) FG FL NG BG (X₀.keeps st) (T.keeps st)) (fun fl s' hl => by
      obtain ⟨L2, m2, news2, F2, N2, k⟩ := hl
      exact ⟨L2, m2, news2, F2, N2, fun F3 N3 => k F3 (by rw [List.append_nil]; exact N3)⟩) fun _ _ y => y.elim) hcell hk
end
section
section
variable {prog : Program} {w : World} {A : Around} {E : Value → Shared → Prop} {h : Heap} {g : Array GenState} {d : Drawn} {t : Nat} {os : OsState}
/-- super().name where the name leads to a builtin that is no descriptor -/
theorem supga_plain {so D x C : Addr} {id : String} {l₀ l : List Value} {K : Frag} {name : Str} {tk : Tok} {Q : Fin → Shared → Prop}
    (hso : h.get? so = some { cls := .type "super", dict := none, data := .fields #[.ref D, .ref x, .ref C], slots := #[] }) (hno : Looks (model prog w) h (opaqueClassAbove (.ref C)) none)
    (hC : Looks (model prog w) h (mroOf (.ref C)) l₀) (hl : (l₀.dropWhile (· != .ref D)).drop 1 = l) (X : K.In h)
    (hf : alongIn K name l = some (some (.builtin id))) (ht : typeOf (.builtin id) = pure (.type "builtin_function_or_method")) (hlk : typeLookup (.type "builtin_function_or_method") (Str.ofString "__get__") = pure none) (hh : handedOut (.builtin id) = pure (.builtin id)) (hn : (name == ("__class__" : Str)) = false)
    (hq : Q (.done (.ret (.builtin id))) ⟨h, g, d, t, os⟩) :
    wpAny (model prog w) A (Builtin.«super.__getattribute__» ⟨[.ref so, .str name tk], []⟩) Q E ⟨h, g, d, t, os⟩ := by
  have hdt : ({ cls := .type "super", dict := none, data := .fields #[.ref D, .ref x, .ref C], slots := #[] } : Obj).data = .fields #[.ref D, .ref x, .ref C] := rfl
  have f0 : (#[.ref D, .ref x, .ref C] : Array Value)[0]? = some (.ref D) := rfl
  have f1 : (#[.ref D, .ref x, .ref C] : Array Value)[1]? = some (.ref x) := rfl
  have f2 : (#[.ref D, .ref x, .ref C] : Array Value)[2]? = some (.ref C) := rfl
  unfold Builtin.«super.__getattribute__»
  repeat (first
    | (with_reducible refine wpAny_field hso hdt f0 ?_) | (with_reducible refine wpAny_field hso hdt f1 ?_) | (with_reducible refine wpAny_field hso hdt f2 ?_)
    | (with_reducible refine ks_wpAny_notOpaque hno ?_)
    | (with_reducible refine Looks.at hC ?_; rw [hl])
    | (refine ks_forIn_along X (fun _ _ => rfl) rfl ?_ hf)
    | (with_reducible refine wpAny_of_eq ht ?_)
    | (with_reducible refine wpAny_of_eq hlk ?_)
    | (with_reducible refine wpAny_of_eq hh ?_)
    | (with_reducible refine ⟨_, rfl, ?_⟩)
    | (simp only [hn, Bool.or_false, Bool.false_eq_true, if_false])
    | wp_step
    | dsimp only)
  all_goals exact hq
theorem mw_get_lookup : typeLookup (.type "wrapper_descriptor") (Str.ofString "__get__") = pure (some (.builtin "wrapper_descriptor.__get__")) := by rw [typeLookup_type, builtinLookup_eq_fast]; kernel_rfl
theorem mw_get_entry : entryFor table "wrapper_descriptor.__get__" = some Builtin.«wrapper_descriptor.__get__» := entryFor_of_fast (by kernel_rfl)
theorem mw_args (a b c : Value) : argsOk "wrapper_descriptor.__get__" ⟨[a, b, c], []⟩ := by unfold argsOk; kernel_rfl
theorem mw_slot : Slot "wrapper_descriptor" "__get__" "wrapper_descriptor.__get__" :=
  Slot.of (T := "wrapper_descriptor") (name := "__get__") (owner := "wrapper_descriptor") (n := "__get__") (by rw [typeLookup_type, builtinLookup_eq_fast]; kernel_rfl) (by decide +kernel) (by decide +kernel) (by decide +kernel)
    (.inl (by decide +kernel)) (by rw [isSubtype_type]; kernel_rfl)
abbrev mwObj (id : String) (x : Addr) : Obj := { cls := .type "method-wrapper", data := .fields #[.builtin id, .ref x] }
theorem mw_get {x C : Addr} {id : String} {Q : Value → Shared → Prop} (ht : typeOf (.builtin id) = pure (.type "wrapper_descriptor")) (hi : Looks (model prog w) h (isInstance (.ref x) (.type (".".intercalate (id.cutAt '.').dropLast))) true)
    (hq : Q (.ref h.objs.size) ⟨h.push (mwObj id x), g, d, t, os⟩) :
    wpAny (model prog w) A (call (.builtin "wrapper_descriptor.__get__") [.builtin id, .ref x, .ref C]) Q E ⟨h, g, d, t, os⟩ := by
  have hT5 : (⟨h, g, d, t, os⟩ : Shared).TypeIs (.builtin id) "wrapper_descriptor" := ht
  refine wpAny_call_entry mw_slot hT5 mw_get_entry ?_ (mw_args _ _ _)
  unfold Builtin.«wrapper_descriptor.__get__»
  repeat (first | (with_reducible refine hi.at ?_) | wp_step)
  exact ⟨_, rfl, hq⟩
theorem supga_wrap {so D x C : Addr} {id : String} {l₀ l : List Value} {K : Frag} {name : Str} {tk : Tok} {Q : Fin → Shared → Prop}
    (hso : h.get? so = some { cls := .type "super", dict := none, data := .fields #[.ref D, .ref x, .ref C], slots := #[] }) (hno : Looks (model prog w) h (opaqueClassAbove (.ref C)) none)
    (hC : Looks (model prog w) h (mroOf (.ref C)) l₀) (hl : (l₀.dropWhile (· != .ref D)).drop 1 = l) (X : K.In h)
    (hf : alongIn K name l = some (some (.builtin id))) (ht : typeOf (.builtin id) = pure (.type "wrapper_descriptor")) (hi : Looks (model prog w) h (isInstance (.ref x) (.type (".".intercalate (id.cutAt '.').dropLast))) true) (hxC : x ≠ C) (hn : (name == ("__class__" : Str)) = false)
    (hq : Q (.done (.ret (.ref h.objs.size))) ⟨h.push (mwObj id x), g, d, t, os⟩) :
    wpAny (model prog w) A (Builtin.«super.__getattribute__» ⟨[.ref so, .str name tk], []⟩) Q E ⟨h, g, d, t, os⟩ := by
  have hlk := mw_get_lookup
  have hne : (Value.ref x == Value.ref C) = false := by simp [hxC]
  have hdt : ({ cls := .type "super", dict := none, data := .fields #[.ref D, .ref x, .ref C], slots := #[] } : Obj).data = .fields #[.ref D, .ref x, .ref C] := rfl
  have f0 : (#[.ref D, .ref x, .ref C] : Array Value)[0]? = some (.ref D) := rfl
  have f1 : (#[.ref D, .ref x, .ref C] : Array Value)[1]? = some (.ref x) := rfl
  have f2 : (#[.ref D, .ref x, .ref C] : Array Value)[2]? = some (.ref C) := rfl
  unfold Builtin.«super.__getattribute__»
  repeat (first
    | (with_reducible refine wpAny_field hso hdt f0 ?_) | (with_reducible refine wpAny_field hso hdt f1 ?_) | (with_reducible refine wpAny_field hso hdt f2 ?_)
    | (with_reducible refine ks_wpAny_notOpaque hno ?_)
    | (with_reducible refine Looks.at hC ?_; rw [hl])
    | (refine ks_forIn_along X (fun _ _ => rfl) rfl ?_ hf)
    | (with_reducible refine wpAny_of_eq ht ?_)
    | (with_reducible refine wpAny_of_eq hlk ?_)
    | (with_reducible refine mw_get ht hi ?_)
    | (with_reducible refine ⟨_, rfl, ?_⟩)
    | (simp only [hn, hne, Bool.or_false, Bool.false_eq_true, if_false])
    | wp_step
    | dsimp only)
  all_goals exact hq
theorem getMethod_sup {so : Addr} {fs : Array Value} {v : Value} {h' : Heap} {name : Str} {pl : Sem Bool} {Q : Value × List Value → Shared → Prop}
    (hso : h.get? so = some { cls := .type "super", dict := none, data := .fields fs, slots := #[] }) (hv : handedOut v = pure v)
    (hga : wpAny (model prog w) A.in1 (Builtin.«super.__getattribute__» ⟨[.ref so, .str name t], []⟩) (fun f s' => ∃ x, f = .done (.ret x) ∧ x = v ∧ s' = ⟨h', g, d, t + 1, os⟩) (fun _ _ => False) ⟨h, g, d, t + 1, os⟩)
    (hq : Q (v, []) ⟨h', g, d, t + 1, os⟩) :
    wpAny (model prog w) A (getMethod (.ref so) name pl) Q E ⟨h, g, d, t, os⟩ := by
  have hlk := F.ks_slot_super_ga.lookup
  have hcan := F.ks_canon_super_ga
  have hT : ∀ t', (⟨h, g, d, t', os⟩ : Shared).TypeIs (.ref so) "super" := fun _ => ⟨_, hso, rfl⟩
  unfold getMethod
  refine wpAny_bind (wpAny_specialOf (hT _) hlk ?_)
  show wpAny _ _ (if (Manifest.canonical "super.__getattribute__" != "object.__getattribute__") = true then _ else _) _ _ _
  rw [if_pos hcan]
  unfold getAttr getAttrBy
  refine wpAny_bind (wpAny_bind (wpAny_mkText (wpAny_holding (wpAny_bind (wpAny_typeOf (hT _) (wpAny_bind (wpAny_of_eq hlk ?_)))))))
  show wpAny _ _ (getAttrByItsOwn (.ref so) (.str name t) (.type "super") (.builtin "super.__getattribute__") true false) _ _ _
  unfold getAttrByItsOwn hookBefore callGetattribute boundAndCalled
  refine wpAny_bind (wpAny_of_eq (show (if onTheHeap (.type "super") then typeLookup (.type "super") "__getattr__" else pure none) = pure none from rfl) ?_)
  refine wpAny_bind (wpAny_attempt (wpAny_holding ?_))
  show wpAny _ _ (bindSpecial (.builtin "super.__getattribute__") (.ref so) >>= _) _ _ _
  refine wpAny_bind (wpAny_of_eq (F.ks_slot_super_ga.bind _) ?_)
  refine wpAny_mono (Q := fun x s' => x = v ∧ s' = ⟨h', g, d, t + 1, os⟩) (E := fun _ _ => False)
    (wpAny_call_entry F.ks_slot_super_ga (hT _) F.ks_entry_super_ga hga (F.ks_gaArgs_super _ _)) (fun x s' hv' => ?_) fun _ _ z => z.elim
  obtain ⟨rfl, rfl⟩ := hv'
  exact wpAny_of_eq hv (wpAny_pure hq)
end
section
variable {prog : Program} {w : World} {A : Around} {E : Value → Shared → Prop} {s : Shared} {h₀ : Heap} {L : Addr} {m : Str → Option Value} {news : List (Addr × Obj)} {K : Frag} {x C D so : Addr} {ox : Obj} {odx : Option Obj}
/-- super().name: a wrapper of a builtin type -/
theorem sup_wrap {name : Str} {id : String} {pl : Sem Bool} {Q : Value × List Value → Shared → Prop} (F : Fr h₀ L s.heap m) (X₀ : K.In h₀) (N : News h₀ L s.heap news) (hso : (so, ks_superObj D x C) ∈ news) (I : InstAt s.heap x ox C odx) (ho : nsIn K cStatics "thirdparty.any" = some none)
    (hm : ks_superIn K C D name = some (some (.builtin id))) (ht : typeOf (.builtin id) = pure (.type "wrapper_descriptor")) (hi : mroIn K C (.type (".".intercalate (id.cutAt '.').dropLast)) = some true) (hn : (name == ("__class__" : Str)) = false)
    (h : ∀ q h', Fr h₀ L h' m → News h₀ L h' ((q, mwObj id x) :: news) → (∀ p ∈ news, p.1 < q) → Q (.ref q, []) { s with heap := h', toks := s.toks + 1 }) : wpAny (model prog w) A (getMethod (.ref so) name pl) Q E s := by
  have X : K.In s.heap := X₀.keeps F.keep
  obtain ⟨hh, g, d, t, os⟩ := s
  cases hc : clsIn K C with
  | none => unfold ks_superIn at hm; rw [hc] at hm; cases hm
  | some cd =>
    unfold ks_superIn at hm
    rw [hc] at hm
    have hi' : Looks (model prog w) hh (isInstance (.ref x) (.type (".".intercalate (id.cutAt '.').dropLast))) true := I.type.andThen (looks_mroIn X hi)
    obtain ⟨F', N', l'⟩ := ks_newsPush (s := ⟨hh, g, d, t, os⟩) (o := mwObj id x) F N rfl (Heap.get?_push_at rfl rfl) (fun b o e => Heap.get?_push_of_some _ e)
    refine getMethod_sup (N _ hso).1 rfl (supga_wrap (N _ hso).1 (looks_opaque X ho) (l₀ := cd.mro) ?_ rfl X hm ht hi' (ks_ne X I hc) hn ⟨_, rfl, rfl, rfl⟩) (h _ _ F' N' l')
    exact fun A Q E s k q => wpAny_bind ((looks_clsIn X hc) A _ E s k (wpAny_pure q))
/-- super().name: a builtin that is no descriptor -/
theorem sup_plain {name : Str} {id : String} {pl : Sem Bool} {Q : Value × List Value → Shared → Prop} (F : Fr h₀ L s.heap m) (X₀ : K.In h₀) (N : News h₀ L s.heap news) (hso : (so, ks_superObj D x C) ∈ news) (ho : nsIn K cStatics "thirdparty.any" = some none)
    (hm : ks_superIn K C D name = some (some (.builtin id))) (ht : typeOf (.builtin id) = pure (.type "builtin_function_or_method")) (hlk : typeLookup (.type "builtin_function_or_method") (Str.ofString "__get__") = pure none) (hh : handedOut (.builtin id) = pure (.builtin id)) (hn : (name == ("__class__" : Str)) = false)
    (h : Q (.builtin id, []) { s with toks := s.toks + 1 }) : wpAny (model prog w) A (getMethod (.ref so) name pl) Q E s := by
  have X : K.In s.heap := X₀.keeps F.keep
  obtain ⟨hh', g, d, t, os⟩ := s
  cases hc : clsIn K C with
  | none => unfold ks_superIn at hm; rw [hc] at hm; cases hm
  | some cd =>
    unfold ks_superIn at hm
    rw [hc] at hm
    refine getMethod_sup (N _ hso).1 hh (supga_plain (N _ hso).1 (looks_opaque X ho) (l₀ := cd.mro) ?_ rfl X hm ht hlk hh hn ⟨_, rfl, rfl, rfl⟩) h
    exact fun A Q E s k q => wpAny_bind ((looks_clsIn X hc) A _ E s k (wpAny_pure q))
end
end
section
section
variable {prog : Program} {w : World} {A : Around} {E : Value → Shared → Prop} {h : Heap} {g : Array GenState} {d : Drawn} {t : Nat} {os : OsState}
theorem di_entry : entryFor table "dict.__init__" = some Builtin.«dict.__init__» := entryFor_of_fast (by kernel_rfl)
theorem di_run {P C : Addr} {ox : Obj} {od : Option Obj} {Q : Fin → Shared → Prop} (I : InstAt h P ox C od) (ho : Looks (model prog w) h (isSubtype (.ref C) (.type "collections.OrderedDict")) false)
    (hk : Q (.done (.ret .none)) ⟨h, g, d, t, os⟩) : wpAny (model prog w) A (Builtin.«dict.__init__» ⟨[.ref P], []⟩) Q E ⟨h, g, d, t, os⟩ := by
  have LT := I.type (M := model prog w)
  have LO : Looks (model prog w) h (isInstance (.ref P) (.type "collections.OrderedDict")) false := LT.andThen ho
  unfold Builtin.«dict.__init__»
  have hc := I.cls
  have hat := I.at_
  refine wpAny_bind ?_
  unfold Builtin.Dict.selfAndRest
  refine wpAny_bind ?_
  unfold Builtin.Dict.notOrdered
  rw [if_pos (by decide)]
  show wpAny _ _ (typeOf (.ref P) >>= _) _ _ _
  refine wpAny_bind (LT.at ?_)
  rw [if_pos (by rfl)]
  show wpAny _ _ (isInstance (.ref P) (.type "collections.OrderedDict") >>= _) _ _ _
  refine wpAny_bind (LO.at ?_)
  repeat wp_step
  exact hk
theorem di_call {q P C : Addr} {ox : Obj} {od : Option Obj} {Q : Value → Shared → Prop} (hq : h.get? q = some (mwObj "dict.__init__" P)) (I : InstAt h P ox C od) (ho : Looks (model prog w) h (isSubtype (.ref C) (.type "collections.OrderedDict")) false)
    (hk : Q .none ⟨h, g, d, t, os⟩) : wpAny (model prog w) A (call (.ref q) []) Q E ⟨h, g, d, t, os⟩ := by
  refine wpAny_call (codeAny_of_tree ?_)
  show wpAny _ A.in1 (callAny (.ref q) ⟨[], []⟩) _ _ _
  unfold callAny
  refine wpAny_bind (wpAny_load hq ?_)
  have LT := I.type (M := model prog w)
  have LO : Looks (model prog w) h (isInstance (.ref P) (.type "collections.OrderedDict")) false := LT.andThen ho
  repeat (first | (with_reducible refine LO.at ?_) | wp_step)
  show (Code.builtin "dict.__init__" ⟨[.ref P], []⟩).quiet = true ∧ codeAny (model prog w) A (.builtin "dict.__init__" ⟨[.ref P], []⟩) _ _
  exact ⟨Code.quiet_builtin _ (by decide +kernel), codeAny_builtin PySem.F.entry_dict_init (di_run I ho hk)⟩
end
end
section
section
variable {prog : Program} {w : World} {A : Around} {E : Value → Shared → Prop} {h : Heap} {g : Array GenState} {d : Drawn} {t : Nat} {os : OsState}
theorem merge_none {D N : Addr} (hN : h.get? N = some W.emptyDict) (hD : h.get? D = some (dictOf [] 0)) (hs : (D == sysModules) = false) {Q : Unit → Shared → Prop} (hq : Q () ⟨h, g, d, t, os⟩) :
    wpAny (model prog w) A (mergeMapping N (.ref D) true) Q E ⟨h, g, d, t, os⟩ := by
  have hT : (⟨h, g, d, t, os⟩ : Shared).TypeIs (.ref D) "dict" := ⟨_, hD, rfl⟩
  have f1 : isSubtype (.type "dict") (.type "dict") = pure true := by rw [isSubtype_type]; kernel_rfl
  have f2 := PySem.F.slot_dict_iter.lookup
  unfold mergeMapping
  repeat (any_goals (first | assumption | wp_step))
theorem merged_none {f : Value} {y : Sem Value} {D : Addr} (hD : h.get? D = some (dictOf [] 0)) (hs : (D == sysModules) = false) {Q : Addr → Shared → Prop}
    (hy : ∀ Q' : Value → Shared → Prop, Q' (.ref D) ⟨h.push W.emptyDict, g, d, t, os⟩ → wpAny (model prog w) A y Q' E ⟨h.push W.emptyDict, g, d, t, os⟩)
    (hq : Q h.objs.size ⟨h.push W.emptyDict, g, d, t, os⟩) : wpAny (model prog w) A (mergedKeywords f [(none, y)]) Q E ⟨h, g, d, t, os⟩ := by
  unfold mergedKeywords
  refine wpAny_bind (wpAny_alloc ?_)
  refine wpAny_bind (wpAny_holding ?_)
  have hN : (h.push W.emptyDict).get? h.objs.size = some W.emptyDict := Heap.get?_push_size _ rfl
  have hD' : (h.push W.emptyDict).get? D = some (dictOf [] 0) := Heap.get?_push_of_some _ hD
  dsimp only
  rw [List.forIn_cons]
  refine wpAny_bind (wpAny_bind ?_)
  with_reducible refine wpAny_bind ?_
  rw [if_pos (by rfl)]
  refine wpAny_pure ?_
  refine wpAny_bind (hy _ ?_)
  refine wpAny_bind (wpAny_onRaise (wpAny_holding (wpAny_tryCatch (wpAny_onRaise (merge_none hN hD' hs ?_)))))
  repeat (first | assumption | wp_step)
abbrev tup0 : Obj := { cls := .type "tuple", data := .seq #[] }
theorem evalArgs_skw {f : Value} {x y : Sem Value} {C D : Addr} (hC : h.get? C = some tup0) (hD : h.get? D = some (dictOf [] 0)) (hs : (D == sysModules) = false) {Q : Args → Shared → Prop}
    (hx : ∀ Q' : Value → Shared → Prop, Q' (.ref C) ⟨h, g, d, t, os⟩ → wpAny (model prog w) A x Q' E ⟨h, g, d, t, os⟩)
    (hy : ∀ Q' : Value → Shared → Prop, Q' (.ref D) ⟨h.push W.emptyDict, g, d, t, os⟩ → wpAny (model prog w) A y Q' E ⟨h.push W.emptyDict, g, d, t, os⟩)
    (hq : ∀ h', (∀ b o, h.get? b = some o → h'.get? b = some o) → Q ⟨[], []⟩ ⟨h', g, d, t, os⟩) : wpAny (model prog w) A (evalArgs f true [(true, x)] [(none, y)]) Q E ⟨h, g, d, t, os⟩ := by
  have hC' : (h.push W.emptyDict).get? C = some tup0 := Heap.get?_push_of_some _ hC
  have hN : (h.push W.emptyDict).get? h.objs.size = some W.emptyDict := Heap.get?_push_size _ rfl
  have hT : (⟨h.push W.emptyDict, g, d, t, os⟩ : Shared).TypeIs (.ref C) "tuple" := ⟨_, hC', rfl⟩
  unfold evalArgs
  refine wpAny_bind (hx _ (wpAny_bind (wpAny_pure ?_)))
  refine wpAny_holding ?_
  show wpAny _ _ (mergedKeywords f [(none, y)] >>= _) _ _ _
  refine wpAny_bind (merged_none hD hs hy ?_)
  refine wpAny_bind ?_
  unfold notIterableAtAll
  refine wpAny_bind (wpAny_bind (wpAny_specialOf hT PySem.F.slot_tuple_iter.lookup (wpAny_pure ?_)))
  dsimp only
  rw [if_neg Bool.false_ne_true]
  refine wpAny_holding (wpAny_collect_seq C (.inr rfl) hC' rfl rfl (fun h' hk => ?_) (by rw [sizeLine_eq]; decide))
  have hN' := hk _ _ hN
  refine wpAny_bind (wpAny_holding ?_)
  unfold keywordsIn
  refine wpAny_bind (wpAny_dictEntries hN' rfl ?_)
  refine wpAny_bind (wpAny_pure (wpAny_pure (wpAny_pure ?_)))
  exact hq h' fun b o e => hk _ _ (Heap.get?_push_of_some _ e)
theorem callWith_skw {f : Value} {first : List Value} {x y : Sem Value} {C D : Addr} {pos : Pos} {P : Heap → Prop} (hC : h.get? C = some tup0) (hD : h.get? D = some (dictOf [] 0)) (hs : (D == sysModules) = false) {Q : Value → Shared → Prop}
    (hx : ∀ Q' : Value → Shared → Prop, Q' (.ref C) ⟨h, g, d, t, os⟩ → wpAny (model prog w) A x Q' E ⟨h, g, d, t, os⟩)
    (hy : ∀ Q' : Value → Shared → Prop, Q' (.ref D) ⟨h.push W.emptyDict, g, d, t, os⟩ → wpAny (model prog w) A y Q' E ⟨h.push W.emptyDict, g, d, t, os⟩)
    (hk : ∀ h, P h → ∃ k, (k = Keeper.frame ∨ k = Keeper.machine ∨ k = Keeper.boundFrame) ∧ Looks (model prog w) h (keeperOf f) k)
    (hq : ∀ h', (∀ b o, h.get? b = some o → h'.get? b = some o) → P h' ∧ wpAny (model prog w) A (call f first) Q E ⟨h', g, d, t, os⟩) : wpAny (model prog w) A (callWith pos f first [(true, x)] [(none, y)]) Q E ⟨h, g, d, t, os⟩ := by
  unfold callWith
  refine wpAny_bind (wpAny_holding (evalArgs_skw hC hD hs hx hy fun h' hk' => wpAny_bind (wpAny_standAt ?_)))
  obtain ⟨hP, hc⟩ := hq h' hk'
  obtain ⟨k, hk', L⟩ := hk _ hP
  refine wpAny_bind (L.here ?_)
  have hc : wpAny (model prog w) A (call f (first ++ []) []) Q E ⟨h', g, d, t, os⟩ := by rw [List.append_nil]; exact hc
  have tail : ∀ {t' : Sem Value}, wpAny (model prog w) A t' Q E ⟨h', g, d, t, os⟩ → wpAny (model prog w) A (t' >>= fun r => holding [r] point >>= fun _ => pure r) Q E ⟨h', g, d, t, os⟩ :=
    fun ht => wpAny_bind (wpAny_mono ht (fun r s₂ hr => wpAny_bind (wpAny_holding (wpAny_point (wpAny_pure hr)))) fun _ _ x => x)
  have marked (mk : Value) : wpAny (model prog w) A (callMarked mk f (first ++ []) []) Q E ⟨h', g, d, t, os⟩ := by unfold callMarked; exact Calls.wpAny_keep hc
  rcases hk' with rfl | rfl | rfl <;> first | exact tail (marked _) | exact tail (wpAny_operating hc)
theorem callWith_mw {q x : Addr} {id : String} {pos : Pos} {env : Env} {Q : Value → Shared → Prop} (hq : h.get? q = some (mwObj id x)) (hc : wpAny (model prog w) A (call (.ref q) []) Q E ⟨h, g, d, t, os⟩) :
    wpAny (model prog w) A (callWith pos (.ref q) [] (backTo pos (starEach [] env)) []) Q E ⟨h, g, d, t, os⟩ :=
  callWith_of (P := fun h => h.get? q = some (mwObj id x)) rfl (fun h e => ⟨.machine, .inr (.inl rfl), (Looks.ld (part := none) e).andThen .now⟩) (evalArgs_nil3 ⟨hq, hc⟩)
end
section
variable {M : Model} {A : Around} {E : Value → Shared → Prop} {s : Shared} {env : Env} {c : Code}
theorem eval_skw {o e k : Expr} {name : Str} {apos p1 p2 pos : Pos} {Q : Value → Shared → Prop}
    (h : wpAny M A (attributeBase o name env (eval o env)) (fun ov s₁ => wpAny M A (getAttr ov name true) (fun f s₂ => wpAny M A (callWith pos f [] (backTo pos [(true, eval e env)]) (backToKw pos [(none, eval k env)])) Q E s₂) E s₁) E s) :
    wpAny M A (eval (.Call (.Attribute o name apos) [.Starred e p1] [⟨none, k, p2⟩] pos) env) Q E s := by
  show wpAny M A (do
    let ov ← attributeBase o name env (eval o env)
    standAt apos.atName
    let (f, first) ← holding [ov] (do pure (← getAttr ov name true, []))
    let callPos ← (pure pos : Sem Pos)
    callWith callPos f first (backTo pos [(true, eval e env)]) (backToKw pos [(none, eval k env)])) Q E s
  refine wpAny_bind (wpAny_mono h (fun ov s₁ h₁ => wpAny_bind (wpAny_standAt (wpAny_bind (wpAny_holding (wpAny_bind (wpAny_mono h₁ (fun f s₂ h₂ => ?_) fun _ _ x => x)))))) fun _ _ x => x)
  exact wpAny_pure (wpAny_bind (wpAny_pure h₂))
theorem eval_skwN {o e k : Expr} {name : Str} {apos p1 p2 pos : Pos} {Q : Value → Shared → Prop}
    (h : wpAny M A (eval o env) (fun ov s₁ => wpAny M A (getAttr ov name true) (fun f s₂ => wpAny M A (callWith pos f [] (backTo pos [(true, eval e env)]) (backToKw pos [(none, eval k env)])) Q E s₂) E s₁) E s)
    (hb : attributeBase o name env (eval o env) = eval o env := by rfl) :
    wpAny M A (eval (.Call (.Attribute o name apos) [.Starred e p1] [⟨none, k, p2⟩] pos) env) Q E s := eval_skw (by rw [hb]; exact h)
theorem evalAt_skw {o e k : Expr} {name : Str} {apos p1 p2 pos : Pos} {Q : Value → Shared → Prop}
    (h : _root_.PySem.wpAt M A c (attributeBase o name env (eval o env)) (fun ov s₁ => wpAny M A (getAttr ov name true) (fun f s₂ => wpAny M A (callWith pos f [] (backTo pos [(true, eval e env)]) (backToKw pos [(none, eval k env)])) Q E s₂) E s₁) E s) :
    _root_.PySem.wpAt M A c (eval (.Call (.Attribute o name apos) [.Starred e p1] [⟨none, k, p2⟩] pos) env) Q E s := by
  show _root_.PySem.wpAt M A c (do
    let ov ← attributeBase o name env (eval o env)
    standAt apos.atName
    let (f, first) ← holding [ov] (do pure (← getAttr ov name true, []))
    let callPos ← (pure pos : Sem Pos)
    callWith callPos f first (backTo pos [(true, eval e env)]) (backToKw pos [(none, eval k env)])) Q E s
  refine _root_.PySem.wpAt_bind (_root_.PySem.wpAt_mono h (fun ov s₁ h₁ => _root_.PySem.wpAt_of_wpAny (wpAny_bind (wpAny_standAt (wpAny_bind (wpAny_holding (wpAny_bind (wpAny_mono h₁ (fun f s₂ h₂ => ?_) fun _ _ x => x))))))) fun _ _ x => x)
  exact wpAny_pure (wpAny_bind (wpAny_pure h₂))
end
end
section
theorem dg_kind : builtinKind "dict.__getattribute__" = some .slot := by decide +kernel
theorem dg_split : splitId "dict.__getattribute__" = some ("dict", "__getattribute__") := by decide +kernel
section
variable {prog : Program} {w : World} {A : Around} {E : Value → Shared → Prop} {h : Heap} {g : Array GenState} {d : Drawn} {t : Nat} {os : OsState}
/-- x.name, a def of the class of x, where the class of x lies under dict -/
theorem getattr_dm {K : Frag} {x C f : Addr} {ox : Obj} {odx : Option Obj} {name : Str} {expr : Bool} {Q : Value → Shared → Prop} (X : K.In h) (I : InstAt h x ox C odx)
    (hga : findIn K (.ref C) "__getattribute__" = some (some (.builtin "dict.__getattribute__"))) (hk : findIn K (.ref C) "__getattr__" = some none) (hm : mroIn K C (.type "dict") = some true)
    (hf : findObj K C odx name = some (.bind (.builtin "function.__get__") (.ref f))) (ht : typeIn K (.ref f) = some (.type "function"))
    (hq : Q (.ref h.objs.size) ⟨h.push (methodObj (.ref f) (.ref x)), g, d, t + 1, os⟩) : wpAny (model prog w) A (getAttr (.ref x) name expr) Q E ⟨h, g, d, t, os⟩ := by
  have L0 := I.type (M := model prog w)
  have L1 := looks_findIn (M := model prog w) X hga
  have L2 := looks_findIn (M := model prog w) X hk
  have L3 := looks_find (M := model prog w) X I hf
  have L4 : Looks (model prog w) h (isInstance (.ref x) (.type "dict")) true := L0.andThen (looks_mroIn X hm)
  unfold getAttr getAttrBy
  refine wpAny_bind (wpAny_mkText (wpAny_holding (wpAny_bind (L0.at (wpAny_bind (L1.at ?_))))))
  show wpAny _ _ (getAttrByItsOwn (.ref x) (.str name t) (.ref C) (.builtin "dict.__getattribute__") true expr) _ _ _
  unfold getAttrByItsOwn hookBefore callGetattribute boundAndCalled
  show wpAny _ _ (typeLookup (.ref C) "__getattr__" >>= _) _ _ _
  refine wpAny_bind (L2.at ?_)
  refine wpAny_bind (wpAny_attempt (wpAny_holding ?_))
  rw [show (expr && onTheHeap (Value.builtin "dict.__getattribute__")) = false from Bool.and_false _, if_neg Bool.false_ne_true]
  refine wpAny_bind (wpAny_of_eq (PySem.F.slot_dict_getattribute.bind _) ?_)
  refine wpAny_mono (Q := fun v s' => v = .ref h.objs.size ∧ s' = ⟨h.push (methodObj (.ref f) (.ref x)), g, d, t + 1, os⟩) (E := fun _ _ => False) ?_ (fun v s' hv => ?_) fun _ _ z => z.elim
  · refine wpAny_call ?_
    show codeAny _ _ (.call (.builtin "dict.__getattribute__") ⟨[.ref x, .str name t], []⟩) _ _
    refine codeAny_call_builtin PySem.F.slot_dict_getattribute.plain PySem.F.entry_dict_ga ?_
    refine @check_slot (model prog w) _ _ _ "dict.__getattribute__" "dict" "__getattribute__" (.ref x) [.str name t] [] _ dg_kind dg_split L4 (PySem.F.args_dict_getattribute_2 _ _) ?_
    unfold Builtin.«object.__getattribute__»
    refine wpAny_bind (m := slotArgs "__getattribute__" 1 _) (wpAny_of_eq (a := (Value.ref x, [Value.str name (t)])) (by first | rfl | kernel_rfl!) ?_)
    dsimp only
    refine wpAny_bind (wpAny_of_eq (a := name) (by first | rfl | kernel_rfl!) ?_)
    refine wpAny_bind (L0.at (wpAny_bind (L3.at ?_)))
    show wpAny _ _ (holding [.ref f] (call (.builtin "function.__get__") [.ref f, .ref x, .ref C]) >>= fun v => ret v) _ _ _
    refine wpAny_bind (wpAny_holding (wpAny_call (fn_get (s := ⟨h, g, d, t + 1, os⟩) X ht ?_)))
    exact wpAny_pure ⟨rfl, rfl⟩
  · obtain ⟨rfl, rfl⟩ := hv
    exact wpAny_pure hq
end
end
section
theorem off_Cdj : True := by
  w_top off
  exact trivial
local macro_rules | `(tactic| walk_at "p_enter") => `(tactic| (k_dflt (refine' pureCall _ ?k1 ?k2 ?k3 ?k4 ?k5 ?kF ?kK ?k6 ?k7 ?k8 ?k9 ?kB ?c5 ?c2 ?c3 ?c4 ?cp ?_; (case cp => first | assumption | ((try dsimp only); omega)); (case kF => exact rfl); (case kK => first | assumption | exact rfl); (case k1 => k_asm); (case k2 => k_asm); (case k3 => k_asm); (case k4 => k_asm); (case k5 => k_asm); (case k6 => k_is); (case k7 => k_is); (case k8 => ktr_room); (case k9 => first | exact BindsTo.of_eq rfl | exact binds_K (by k_in) rfl (by k_is) rfl rfl rfl); (case c5 => decide); (case kB => exact locs rfl); (case c2 => exact rfl); (case c3 => exact rfl); (case c4 => exact rfl); k_whole; intro g' L' h' tk' htk' F' N' B' X' T' hin'; (try dsimp only); (try k_fold))))
local macro_rules | `(tactic| walk_at "h_enter") => `(tactic| (k_dflt ((case cp => first | assumption | ((try dsimp only); omega)); (case k1 => k_asm); (case k2 => k_asm); (case k3 => k_asm); (case kF => exact rfl); (case kK => first | assumption | exact rfl); (case k5 => k_asm); (case k6 => k_is); (case k7 => k_is); (case k8 => ktr_room); (case k9 => first | exact BindsTo.of_eq rfl | exact binds_K (by k_in) rfl (by k_is) rfl rfl rfl); (case c5 => decide); (case kB => exact locs rfl); (case c2 => exact rfl); (case c3 => exact rfl); (case c4 => exact rfl); k_whole; intro g' L' h' tk' htk' F' N' B' X' T' hin'; (try dsimp only); (try k_fold))))
local macro_rules | `(tactic| walk_at "execs cons") => `(tactic| (k_here; (with_reducible refine wpAny_execs_cons ?_); try dsimp only))
local macro_rules | `(tactic| walk_at "execs cons") => `(tactic| (k_here; (with_reducible refine execs_consT ?hp ?_); (case hp => ((try dsimp only); omega)); try dsimp only))
local macro_rules | `(tactic| walk_at "TokOk") => `(tactic| (intro hpT; (try dsimp only at hpT); (try dsimp only)))
local macro_rules | `(tactic| walk_at "call builtin:str.replace") => `(tactic| ((with_reducible show wpAny _ _ (call (Value.builtin "str.replace") [Value.str _ _, Value.str _ _, Value.str _ _]) _ _ _); (refine replN ?k0 ?k1 ?k2 ?k3 ?k4 ?k5 ?k6 ?_; (case k0 => (try dsimp only); omega); (case k1 => show @Ne Nat _ _; omega); (case k2 => show @Ne Nat _ _; omega); (case k3 => show @Ne Nat _ _; omega); (case k4 => decide); (case k5 => omega); (case k6 => decide)); intro _ _ _ _ _ _; (try dsimp only)))
local macro_rules | `(tactic| walk_at "exec For Name Subscript cons nil") => `(tactic| (k_here; refine stop_ ?_))
local macro_rules | `(tactic| walk_at "exec For Name Call cons nil") => `(tactic| (k_here; refine stop_ ?_))
local macro_rules | `(tactic| walk_at "exec While Compare cons nil") => `(tactic| (k_here; refine stop_ ?_))
local macro_rules | `(tactic| walk_at "exec While BoolOp cons nil") => `(tactic| (k_here; refine stop_ ?_))
local macro_rules | `(tactic| walk_at "call ref") => `(tactic| (k_here; refine stop_ ?_))
local macro_rules | `(tactic| walk_at "call ref cons nil") => `(tactic| (k_here; refine stop_ ?_))
local macro_rules | `(tactic| walk_at "call ref nil nil") => `(tactic| (k_here; refine stop_ ?_))
local macro_rules | `(tactic| walk_at "pyIter ref") => `(tactic| (k_here; refine stop_ ?_))
local macro_rules | `(tactic| walk_at "subscriptTail Name Call ref int") => `(tactic| (k_here; refine stop_ ?_))
local macro_rules | `(tactic| walk_at "InvPostN") => `(tactic| (refine stop_ ?_))
local macro_rules | `(tactic| walk_at "InvPostN next") => `(tactic| (refine stop_ ?_))
local macro_rules | `(tactic| walk_at "InvPostN cont") => `(tactic| (refine stop_ ?_))
local macro_rules | `(tactic| walk_at "InvEndN") => `(tactic| (refine stop_ ?_))
local macro_rules | `(tactic| walk_at "CompSrc") => `(tactic| (refine stop_ ?_))
local macro_rules | `(tactic| walk_at "CompSrc ref") => `(tactic| (refine stop_ ?_))
local macro_rules | `(tactic| walk_at "c_enter") => `(tactic| (k_dflt (refine' bothAt ?k1 ?k2 ?k3 ?k4 ?k5 ?kF ?kK ?k6 ?k7 ?k8 ?kV ?kQ ?kM ?kR ?kP ?kS ?kT ?kB ?c5 ?c2 ?c3 ?c4 ?_; (case kF => exact rfl); (case kK => first | assumption | exact rfl); (case k1 => k_asm); (case k2 => k_asm); (case k3 => k_asm); (case k4 => k_asm); (case k5 => k_asm); (case k6 => k_is); (case k7 => k_is); (case k8 => ktr_room); (case kV => kp_lit); (case kQ => exact rfl); (case kM => exact rfl); (case kR => exact rfl); (case kP => exact rfl); (case kS => exact fun _ => rfl); (case kT => exact fun _ _ => rfl); (case kB => exact fun _ _ => locs rfl); (case c5 => decide); (case c2 => exact rfl); (case c3 => exact rfl); (case c4 => exact rfl); k_whole; intro C' D' g' L' h' tk' l1 l2 hs' FG' F' N' B' X' T'; (try dsimp only); (try k_fold))))
/-- an object of Parameters -/
abbrev pmObj (dd : Addr) : Obj := { cls := .ref 279, dict := some dd, data := .dict #[] 0, slots := #[] }
theorem instPm {h₀ h : Heap} {L P dd : Addr} {news : List (Addr × Obj)} (N : News h₀ L h news) (hm : (P, pmObj dd) ∈ news) (hd : (dd, W.emptyDict) ∈ news) : InstAt h P (pmObj dd) 279 (some W.emptyDict) := ⟨(N _ hm).1, rfl, rfl, (N _ hd).1⟩
local macro_rules | `(tactic| k_inst) => `(tactic| exact instPm (by k_asm) (by k_mem) (by k_mem))
local macro_rules | `(tactic| walk_at "getMethod ref") => `(tactic| (k_here; (with_reducible show wpAny _ _ (getMethod (Value.ref _) (Str.ofString "__init__") _) _ _ _); refine stop_ ?_))
section
variable {w : World} {mean : ExcName → Option Value} {mg mb : Str → Option Value} {dp un : Nat} {gd : Option (List Code)} {cn : Str} {cs : Scope} {a : Addr} {ccd : Value} {cl : List (Str × Addr)} {outer : List Env} {A₀ : Around} {base h₀ : Heap} {L : Addr} {m : Str → Option Value} {s : Shared} {R : Result → Shared → Prop} {news : List (Addr × Obj)}
theorem cdi_call (P dd : Addr) (B : Below A₀ base outer h₀) (F : Fr h₀ L s.heap m) (X : (hd.heap_39 w.params).In h₀) (N : News h₀ L s.heap ((P, pmObj dd) :: (dd, W.emptyDict) :: news)) (T : TopC mean mg mb h₀) (hk : cs.kind = .function) (hd : dp + 20 < recursionLimit) (hu : un + 160 < cLine)
   (h : ∀ h' tk', Fr h₀ L h' m → News h₀ L h' ((P, pmObj dd) :: (dd, W.emptyDict) :: news) → R (.ok (.ret .none)) { s with heap := h', toks := tk' }) :
   codeAny (model PG w) (ktrTop dp un gd cn cs L a ccd cl outer) (.call (.ref 84) ⟨[.ref P], []⟩) R s := by
  walk_at "c_enter"
  rename_i C D g L1 h1 tk1 l1 l2 hs FG F1 N1 B1 X1 T1
  k_steps
  refine go_ ?_
  rename Fr g _ _ _ => F2
  rename News g _ _ _ => N2
  refine sup_wrap (K := Mine.hd.heap_39 w.params) (id := "dict.__init__") F2 X1 N2 (.head _) (by k_inst) (by k_is) ?ks (by show builtinType _ = _; rw [builtinType_eq_fast]; kernel_rfl) ?mro (by decide) (fun q h3 F3 N3 l3 => ?_)
  case ks => ks_is
  case mro => rw [show ".".intercalate ("dict.__init__".cutAt '.').dropLast = "dict" from by decide +kernel]; k_is
  clear F2 N2
  refine callWith_mw (N3 _ (.head _)).1 (di_call (N3 _ (.head _)).1 (C := 279) (od := some W.emptyDict) (ox := pmObj dd) (instPm N3 (by k_mem) (by k_mem)) (looks_mroIn (X1.keeps F3.keep) (by k_is)) ?_)
  (try dsimp only)
  k_steps
  refine eval_skwN ?_
  k_steps
  rename Fr g _ _ _ => F4
  rename News g _ _ _ => N4
  have N5 := N4.push F4 (methodObj (.ref 164) (.ref P))
  have F5 := F4.push (methodObj (.ref 164) (.ref P))
  refine getattr_dm (K := Mine.hd.heap_39 w.params) (C := 279) (f := 164) (odx := some W.emptyDict) (X1.keeps F4.keep) (by k_inst) (by k_is) (by k_is) (by k_is) ?fo (by k_is) ?_
  case fo => refine findObj_fn ?a ?b ?c ?d ?e ?f <;> first | k_is | decide | rfl
  clear F4 N4
  have N6 := N5.pushKeep W.emptyDict
  have F6 := F5.push W.emptyDict
  refine callWith_skw (C := C) (D := D) (P := MethP (Mine.hd.heap_39 w.params) _ 164 (.ref P)) (N5 _ (.tail _ (.tail _ (.tail _ (.tail _ (.head _)))))).1 (N5 _ (.tail _ (.tail _ (.tail _ (.head _))))).1 hs (fun Q' hQ => ?hx) (fun Q' hQ => ?hy) (keeps_M (by k_is)) (fun h7 hk7 => ⟨⟨hk7 _ _ (N5 _ (.head _)).1, X1.keeps fun b o e => hk7 b o (F5.keep b o e)⟩, ?_⟩)
  case hx =>
    refine wpAny_bind ?_
    clear F6 N6
    k_steps
    exact wpAny_bind (wpAny_standAt (wpAny_pure hQ))
  case hy =>
    refine wpAny_bind ?_
    clear F5 N5
    k_steps
    exact wpAny_bind (wpAny_standAt (wpAny_pure hQ))
  clear F6 N6
  have F7 : Fr g L1 h7 _ := ⟨F5.ns.at' fun o e => hk7 _ _ e, fun b o e => hk7 b o (F5.keep b o e), F5.above⟩
  have N7 : News g L1 h7 _ := fun p hp => ⟨hk7 _ _ (N5 p hp).1, (N5 p hp).2⟩
  clear F5 N5
  refine wpAny_call (method_call (N7 _ (.head _)).1 ?_)
  refine update_call (outer := _ :: outer) P (by k_asm) F7 X1 N7 T1 rfl (by ktr_room) (by ktr_units) (fun h8 tk8 F8 N8 => ?_)
  clear F7 N7
  (try dsimp only)
  k_steps
  refine leaveP_ F8 (news' := _) N8 (fun kF kN => ?_)
  exact h _ _ kF (by rw [List.append_nil] at kN; exact fun p hp => kN p (.tail _ (.tail _ (.tail _ (.tail _ (.tail _ hp))))))
end
end
section
section
variable {M : Model} {A : Around} {E : Value → Shared → Prop} {s : Shared}
/-- the frame of a def with one cell of its own and a closure -/
theorem newEnv_cell1 {scope : Scope} {globals : Addr} {closure : List (Str × Addr)} {n1 n2 nc : Str} {v1 v2 vc : Value} {qual : Str} {func : Option Addr} {code : Value} {builtins : Addr} {Q : Env → Shared → Prop}
    (hk : scope.kind = .function) (hcs : ∀ n acc, cellsFrom n scope.names acc = (nc, n) :: acc) (hpc : ∀ h, pushCells h scope.names = h.push { cls := .type "cell", data := .cell none })
    (h1 : scope.names.lookup n1 = some .local) (h2 : scope.names.lookup n2 = some .local) (h3 : scope.names.lookup nc = some .cell)
    (hQ : ∀ h' tk, h'.Ns s.heap.objs.size (fun y => if y = n2 then some v2 else if y = n1 then some v1 else none) → h'.IsCell (s.heap.objs.size + 1) (some vc) → (∀ b o, s.heap.get? b = some o → h'.get? b = some o) →
      Q (newEnv scope s.heap.objs.size globals ((nc, s.heap.objs.size + 1) :: closure) qual func code none builtins) { s with heap := h', toks := tk }) :
    wpAny M A (newFunctionEnv scope globals closure [(n1, v1), (n2, v2), (nc, vc)] qual func code none builtins) Q E s := by
  simp only [newFunctionEnv, Option.isSome_none, Bool.false_eq_true, if_false]
  refine wpAny_bind (wpAny_alloc ?_)
  refine wpAny_bind (wpAny_layCells _ (fun name kind cells => by cases hkc : kind == NameKind.cell <;> simp [hkc]) _ _ _ _ ?_)
  rw [hcs, hpc]
  rw [show ({ s with heap := s.heap.push { cls := .type "frame", data := .dict #[] } } : Shared).heap.objs.size = s.heap.objs.size + 1 from Heap.size_push ..]
  have hns := (Heap.Ns.new s.heap (.type "frame")).push { cls := .type "cell", data := .cell none }
  have hcell : ((s.heap.push { cls := .type "frame", data := .dict #[] }).push { cls := .type "cell", data := .cell none }).IsCell (s.heap.objs.size + 1) none :=
    ⟨_, Heap.get?_push_at (by rw [Heap.size_push]) rfl, rfl⟩
  have hkeep : ∀ b o, s.heap.get? b = some o → ((s.heap.push { cls := .type "frame", data := .dict #[] }).push { cls := .type "cell", data := .cell none }).get? b = some o := fun b o e => Heap.get?_push_of_some _ (Heap.get?_push_of_some _ e)
  generalize (s.heap.push { cls := .type "frame", data := .dict #[] }).push { cls := .type "cell", data := .cell none } = hh at hns hcell hkeep ⊢
  have hne : s.heap.objs.size + 1 ≠ s.heap.objs.size := Nat.succ_ne_self _
  have hlt : ∀ b o, s.heap.get? b = some o → b ≠ s.heap.objs.size := fun b o e => Nat.ne_of_lt (Heap.lt_size e)
  have hlt' : ∀ b o, s.heap.get? b = some o → b ≠ s.heap.objs.size + 1 := fun b o e => Nat.ne_of_lt (Nat.lt_succ_of_lt (Heap.lt_size e))
  refine wpAny_bind ?_
  rw [List.forIn_cons]
  refine wpAny_bind (wpAny_bind (wpAny_storeName_local (m := fun _ => none) h1 hns (fun ha hna hsa => wpAny_pure ?_) (by rw [hk]; rfl)))
  dsimp only
  rw [List.forIn_cons]
  refine wpAny_bind (wpAny_bind (wpAny_storeName_local h2 hna (fun hb hnb hsb => wpAny_pure ?_) (by rw [hk]; rfl)))
  dsimp only
  rw [List.forIn_cons]
  have hcb : hb.IsCell (s.heap.objs.size + 1) none := (hcell.sameBut hsa hne).sameBut hsb hne
  refine wpAny_bind (wpAny_bind (wpAny_storeName_cell (c := s.heap.objs.size + 1) hk h3 (by simp [List.lookup]) hcb (fun hc' hcc hsc => wpAny_pure ?_)))
  dsimp only
  rw [List.forIn_nil]
  refine wpAny_pure (wpAny_pure ?_)
  exact hQ hc' _ (hnb.sameBut hsc (Ne.symm hne)) hcc fun b o e => hsc.extBut b o (hlt' b o e) (hsb.extBut b o (hlt b o e) (hsa.extBut b o (hlt b o e) (hkeep b o e)))
end
end
section
theorem frameAtC {prog : Program} {w : World} {A₀ A : Around} {s : Shared} {base h₀ : Heap} {outer : List Env} {L : Addr} {m : Str → Option Value} {env : Env} {news : List (Addr × Obj)}
  {R : Result → Shared → Prop} {qual : Str} {body : List Stmt} {scope : Scope} {cl : List (Str × Addr)} {cdv : Value} {f : Addr} {n1 n2 nc : Str} {v1 v2 vc : Value} {E : Value → Shared → Prop} (B : Below A₀ base outer h₀) (F : Fr h₀ L s.heap m) (N : News h₀ L s.heap news) (hlim : h₀.NoLimit) (hA : A.frames = some (env :: outer)) (hf : env.frame = some L) (hke : env.scope.kind = .function)
    (hk : scope.kind = .function) (hcs : ∀ n acc, cellsFrom n scope.names acc = (nc, n) :: acc) (hpc : ∀ h, pushCells h scope.names = h.push { cls := .type "cell", data := .cell none })
    (h1 : scope.names.lookup n1 = some .local) (h2 : scope.names.lookup n2 = some .local) (h3 : scope.names.lookup nc = some .cell)
    (h : ∀ g L' h₁ tk o, o.data = .cell (some vc) → Fr h₀ L g m → Fr g L' h₁ (fun y => if y = n2 then some v2 else if y = n1 then some v1 else none) → News g L' h₁ ((L' + 1, o) :: news) → (∀ p ∈ news, p.1 < L') → Below A base (env :: outer) g → h₀.StaysIn g →
      _root_.PySem.wpAt (model prog w) (A.deeper (envX qual scope L' f cdv ((nc, L' + 1) :: cl))) (.func body (envX qual scope L' f cdv ((nc, L' + 1) :: cl))) (execs body (envX qual scope L' f cdv ((nc, L' + 1) :: cl)))
        (fun fl s' => LeaveK h₀ L m g R (match fl with | .ret v => v | _ => .none) s')
        (fun e s' => wpAny (model prog w) (A.deeper (envX qual scope L' f cdv ((nc, L' + 1) :: cl))) (leaving (envX qual scope L' f cdv ((nc, L' + 1) :: cl)) e) (fun _ s'' => R (.error e) s'') (fun e' s'' => R (.error e') s'') s')
        { s with heap := h₁, toks := tk }) :
    wpAny (model prog w) A.in1 (newFunctionEnv scope mainGlobals cl [(n1, v1), (n2, v2), (nc, vc)] (qual ++ ".<locals>.") (some f) cdv none builtinsNs) (fun env' s₂ => s₂.heap.NoLimit ∧ codeAny (model prog w) A (.func body env') R s₂) E s := by
  obtain ⟨FG, BG, st, lv⟩ := groundX (R := R) B F N hA hf hke
  refine newEnv_cell1 hk hcs hpc h1 h2 h3 (fun h₁ tk hns hcell hk₁ => ⟨(hlim.keeps F.keep).keeps hk₁, ks_codeAny_funcAt ?_⟩)
  obtain ⟨o, ho, hd⟩ := hcell
  refine ks_wpAt_mono (h _ s.heap.objs.size h₁ tk o hd FG ⟨hns, fun b o e => hk₁ b o (of_hideAll _ e), Nat.le_of_eq (hideAll_size _ _)⟩ (fun p hp => ?_) (fun p hp => Heap.lt_size (N p hp).1) BG st) (fun fl s' hl => lv _ _ hl) fun _ _ y => y
  rcases List.mem_cons.mp hp with rfl | hp
  · refine ⟨ho, Nat.succ_ne_self _, ?_⟩
    cases q : (hideAll s.heap (news.map (·.1))).get? (s.heap.objs.size + 1) with
    | none => rfl
    | some o' => exact absurd (Heap.lt_size (of_hideAll _ q)) (Nat.not_lt_of_le (Nat.le_succ _))
  · exact ⟨hk₁ _ _ (N p hp).1, Nat.ne_of_lt (Heap.lt_size (N p hp).1), hideAll_none _ (List.mem_map_of_mem hp)⟩
end
section
/-- the same, where kwargs is a cell -/
theorem bothAtC {prog : Program} {w : World} {A₀ : Around} {s : Shared} {K : Frag} {L : Addr} {h₀ base : Heap} {m mg mb : Str → Option Value} {news : List (Addr × Obj)} {p : Program} {loose : List Str} {mean : ExcName → Option Value} {dp un : Nat} {gd : Option (List Code)} {R : Result → Shared → Prop}
    {env : Env} {outer : List Env} {name qual : Str} {params : Arguments} {body : List Stmt} {scope : Scope} {cl : List (Str × Addr)} {dV kV doc pm cdv ct oc : Value} {an od : Option Addr} {osl : Array (Option Value)} {f : Addr} {args vs : List Value} {nm nr : Str} {n1 : Str} {v1 : Value} {g₁ : Addr → Sem (List (Str × Value))} {g₂ : Addr → Addr → Sem (List (Str × Value))}
    (B : Below A₀ base outer h₀) (F : Fr h₀ L s.heap m) (X₀ : K.In h₀) (N : News h₀ L s.heap news) (T : Top p loose mean mg mb h₀) (hf : env.frame = some L) (hke : env.scope.kind = .function)
    (ho : K.lookup f = some ⟨oc, od, .func (fnX name qual params body scope cl dV kV doc pm an cdv ct), osl⟩) (hcd : codeIn K cdv qual = true) (hroom : dp < recursionLimit)
    (hv : args.drop (params.posonlyargs.length + params.args.length) = vs) (hnr : params.vararg.map (·.arg) = some nr) (hnm : params.kwarg.map (·.arg) = some nm)
    (_hfr : peek K ⟨prog, w.params⟩ (bindArgs (fnCut (fnX name qual params body scope cl dV kV doc pm an cdv ct)) (argsCut params ⟨args, []⟩)) = some [(n1, v1)])
    (hp : peekA K ⟨prog, w.params⟩ (bindArgs (fnX name qual params body scope cl dV kV doc pm an cdv ct) ⟨args, []⟩) = some (({ cls := .type "tuple", data := .seq vs.toArray } : Obj), g₁))
    (hp₂ : ∀ D, peekA K ⟨prog, w.params⟩ (g₁ D) = some (dictOf [] 0, g₂ D))
    (hk₂ : ∀ C D, g₂ C D = (forIn ([] : List (Str × Value)) PUnit.unit (fun x _ => (nsSet D x.1 x.2 >>= fun _ => pure (ForInStep.yield PUnit.unit))) >>= fun _ => pure ([(n1, v1)] ++ [(nr, Value.ref C)] ++ [(nm, Value.ref D)])))
    (hcs : ∀ n acc, cellsFrom n scope.names acc = (nm, n) :: acc) (hpc : ∀ h, pushCells h scope.names = h.push { cls := .type "cell", data := .cell none }) (hl1 : scope.names.lookup n1 = some .local) (hl2 : scope.names.lookup nr = some .local) (hl3 : scope.names.lookup nm = some .cell)
    (hco : scope.isCoroutine = false) (hgen : scope.isGenerator = false) (hk : scope.kind = .function)
    (h : ∀ C D g L' h₁ tk oc, oc.data = .cell (some (.ref D)) → (∀ p ∈ news, p.1 < C) → C < D → (D == sysModules) = false → Fr h₀ L g m → D < L' → Fr g L' h₁ (fun y => if y = nr then some (.ref C) else if y = n1 then some v1 else none) →
      News g L' h₁ ((L' + 1, oc) :: (D, dictOf [] 0) :: (C, ({ cls := .type "tuple", data := .seq vs.toArray } : Obj)) :: news) → Below { handled := none, depth := dp, frames := some (env :: outer), guards := gd, units := un } base (env :: outer) g → K.In g → Top p loose mean mg mb g →
      _root_.PySem.wpAt (model prog w) (Around.deeper { handled := none, depth := dp, frames := some (env :: outer), guards := gd, units := un } (envX qual scope L' f cdv ((nm, L' + 1) :: cl))) (.func body (envX qual scope L' f cdv ((nm, L' + 1) :: cl))) (execs body (envX qual scope L' f cdv ((nm, L' + 1) :: cl)))
        (fun fl s' => LeaveP h₀ L m [] g (fun v s' => R (.ok (.ret v)) s') (match fl with | .ret v => v | _ => .none) s') (fun _ _ => False) { s with heap := h₁, toks := tk }) :
    codeAny (model prog w) { handled := none, depth := dp, frames := some (env :: outer), guards := gd, units := un } (.call (.ref f) ⟨args, []⟩) R s := by
  have _ := hv
  have _ := hnr
  have _ := hnm
  have hn' : (([] : List (Str × Value)).map (·.1)).Nodup := List.nodup_nil
  refine codeAny_call_function (A := { handled := none, depth := dp, frames := some (env :: outer), guards := gd, units := un }) (fd := fnX name qual params body scope cl dV kV doc pm an cdv ct) (body := body) hroom ((X₀.keeps F.keep) _ _ ho) rfl hco hgen rfl (codeRec_of (X₀.keeps F.keep) hcd) ?_
  refine wp_of_peekA (o := ({ cls := .type "tuple", data := .seq vs.toArray } : Obj)) F N (X₀.keeps F.keep) rfl _ g₁ hp fun h' F' N' l => ?_
  refine wp_of_peekA (s := { s with heap := h' }) (o := dictOf [] 0) F' N' (X₀.keeps F'.keep) rfl _ (g₂ s.heap.objs.size) (hp₂ _) fun h'' F'' N'' l' => ?_
  rw [hk₂]
  refine wpAny_bind (wpAny_pure (wpAny_pure ?_))
  exact frameAtC (cl := cl) (s := { s with heap := h'' }) B F'' N'' T.nolimit rfl hf hke hk hcs hpc hl1 hl2 hl3
    (fun g L' h₁ tk oc hoc FG FL NG lt BG st => ks_wpAt_mono (h _ _ g L' h₁ tk oc hoc l (l' _ (.head _)) (F'.notModules (modules_low T.nolimit)) FG (lt _ (.head _)) FL NG BG (X₀.keeps st) (T.keeps st)) (fun fl s' hl => by
      obtain ⟨L2, m2, news2, F2, N2, k⟩ := hl
      exact ⟨L2, m2, news2, F2, N2, fun F3 N3 => k F3 (by rw [List.append_nil]; exact N3)⟩) fun _ _ y => y.elim)
end
section
section
variable {prog : Program} {w : World} {A : Around} {E : Value → Shared → Prop} {h : Heap} {g : Array GenState} {d : Drawn} {t : Nat} {os : OsState}
theorem tup_tail {C S : Addr} {u : Tok} {Q : Value → Shared → Prop} (hC : h.get? C = some { cls := .type "tuple", data := .seq #[.none] }) (hS : h.get? S = some { cls := .type "slice", data := .fields #[.int 1 u, .none, .none] })
    (hq : Q (.ref h.objs.size) ⟨h.push tup0, g, d, t, os⟩) : wpAny (model prog w) A (getItem (.ref C) (.ref S)) Q E ⟨h, g, d, t, os⟩ := by
  have hT : (⟨h, g, d, t, os⟩ : Shared).TypeIs (.ref C) "tuple" := ⟨_, hC, rfl⟩
  have hTs : (⟨h, g, d, t, os⟩ : Shared).TypeIs (.ref S) "slice" := ⟨_, hS, rfl⟩
  have f1 := slice_no_index
  have f2 : typeLookup (.type "int") (Str.ofString "__index__") = pure (some (.builtin "int.__index__")) := by rw [typeLookup_type, builtinLookup_eq_fast]; kernel_rfl
  unfold getItem
  try with_reducible refine wpAny_holding ?_
  first | refine wpAny_bind (wpAny_pure ?_) | skip
  refine wpAny_bind (wpAny_sequenceKey hT (by decide) ?_)
  refine wpAny_bind (wpAny_callSpecial?_slot (name := Str.ofString "__getitem__") hT slot_tuple_getitem
    (wpAny_call_entry slot_tuple_getitem hT entry_tuple_getitem ?_ (args_tuple_getitem _ _)))
  unfold Builtin.«tuple.__getitem__»
  repeat (first | assumption | wp_step)
  exact ⟨_, rfl, wpAny_pure hq⟩
end
end
section
section
variable {prog : Program} {w : World} {A : Around} {E : Value → Shared → Prop} {h : Heap} {g : Array GenState} {d : Drawn} {t : Nat} {os : OsState} {h₀ : Heap} {L : Addr} {m : Str → Option Value} {news : List (Addr × Obj)}
theorem slice_tup {value slice : Expr} {C : Addr} {u : Tok} {Q : Value → Shared → Prop} (F : Fr h₀ L h m) (N : News h₀ L h news) (hC : (C, ({ cls := .type "tuple", data := .seq #[.none] } : Obj)) ∈ news)
    (k : ∀ h', Fr h₀ L h' m → News h₀ L h' ((h.objs.size + 1, tup0) :: news) → (∀ p ∈ news, p.1 < h.objs.size + 1) → Q (.ref (h.objs.size + 1)) ⟨h', g, d, t, os⟩)
    (hs : subscripted slice false (.ref C) (.ref h.objs.size) = operate [.ref h.objs.size, .ref C] (getItem (.ref C) (.ref h.objs.size)) := by with_unfolding_all rfl)
    (ht : ∀ r, letTemporaryGo value (.ref C) r = pure () := by intro _; with_unfolding_all rfl) :
    wpAny (model prog w) A (subscriptTail value slice (.ref C) (.ref h.objs.size)) Q E ⟨h.push { cls := .type "slice", data := .fields #[.int 1 u, .none, .none] }, g, d, t, os⟩ := by
  have hC' := (N _ hC).1
  refine subscriptTail_ops (T := "tuple") ⟨_, Heap.get?_push_of_some _ hC', rfl⟩ slot_tuple_getitem.lookup (tup_tail (Heap.get?_push_of_some _ hC') (Heap.get?_push_size _ rfl) ?_) hs ht
  have N1 := News.push (F.push { cls := .type "slice", data := .fields #[.int 1 u, .none, .none] }) (N.pushKeep { cls := .type "slice", data := .fields #[.int 1 u, .none, .none] }) tup0
  rw [Heap.size_push] at N1 ⊢
  exact k _ ((F.push _).push _) N1 fun p hp => Nat.lt_succ_of_lt (Heap.lt_size (N p hp).1)
end
end
section
section
open PySem.Spec PyProof.V
variable {prog : Program} {w : World} {A : Around} {E : Value → Shared → Prop} {s : Shared} {h₀ : Heap} {m : Str → Option Value} {news : List (Addr × Obj)} {env : Env}
theorem newDict_acc {M : Model} {Q Q' : Value → Shared → Prop} (h : wpAny M A newDict Q' E s) (k : ∀ s', Q' (.ref s.heap.objs.size) s' → Q (.ref s.heap.objs.size) s') : wpAny M A newDict Q E s := fun Γ p hΓ => by
  have h := h Γ p hΓ
  simp only [newDict, newObj, newObjAsIs] at h ⊢
  rw [if_neg (by rw [sizeLine_eq]; decide)] at h ⊢
  exact k _ h
/-- y = {.. for x in l} where l is empty -/
theorem dictcomp_none {kx vx iter : Expr} {x y : Str} {px py : Pos} {ifs : List Expr} {scope : Scope} {cl : List (Str × Addr)} {pos spos : Pos} {Q : Flow → Shared → Prop}
    (_F₀ : Fr h₀ env.locals s.heap m) (_N₀ : News h₀ env.locals s.heap news) (hlow : sysModules < h₀.objs.size) (hsw : swapsWith (.DictComp kx vx [⟨.Name x px, iter, ifs, 0⟩] scope pos) (some (.Name y py)) spos.line env = pure true)
    (hh : A.handled = none) (hclos : closureFor scope env = pure cl) (hcell : ∀ z ∈ scope.names, z.2 ≠ .cell) (hkind : scope.kind = .function)
    (hnames : ∀ z ∈ scope.names, z.2 = .local → scope.names.lookup z.1 = some .local) (hx : scope.names.lookup x = some .local)
    (hy : env.kindOf y = some .local) (hp : (env.scope.kind == .class || (env.scope.kind == .module && env.locals != env.globals)) = false)
    (h : wpAny (model prog w) A (eval iter env) (fun xv s₁ => Stop (∃ ax, xv = .ref ax ∧ s₁.heap.IsList ax ([] : List Value).toArray ∧ Fr h₀ env.locals s₁.heap m ∧ News h₀ env.locals s₁.heap news ∧
      (∀ D o h' tk, Fr h₀ env.locals h' (fun z => if z = y then some (.ref D) else m z) → News h₀ env.locals h' ((D, o) :: news) → (∀ p ∈ news, p.1 ≠ D) → o.IsDictOf (PySem.strKind prog w) [] → (D == sysModules) = false → Q .next { s₁ with heap := h', toks := tk }))) E s)
    (hs : ∀ x, foldedSetIterable iter env x = pure x) :
    wpAny (model prog w) A (exec (.Assign [.Name y py] (.DictComp kx vx [⟨.Name x px, iter, ifs, 0⟩] scope pos) spos) env) Q E s := by
  rw [exec_Assign_Name_used _ _ _ _ hsw]
  refine wpAny_bind (wpAny_standAt (wpAny_bind ?_))
  show wpAny _ A (do let _ ← comprehension (.DictComp kx vx [⟨.Name x px, iter, ifs, 0⟩] scope pos) scope env _ newDict false (eval iter env) (some (assign (.Name y py) env))) _ _ s
  refine wpAny_bind (wpAny_mono (wpAny_comprehension_free (use := some (assign (.Name y py) env)) (Q := fun _ s' => Q .next s') rfl hs hclos hkind hnames
    (wpAny_mono h (fun xv s₁ h₁ => ?_) fun _ _ e => e)) (fun _ s' hq => wpAny_pure (wpAny_pure hq)) fun _ _ e => e)
  obtain ⟨ax, rfl, hl, F, N, hQ⟩ := h₁
  have hlt : ax < s₁.heap.objs.size := by obtain ⟨_, e, _⟩ := hl; exact Heap.lt_size e
  have up : ∀ (s₃ : Shared), (∀ b o, b ∉ [s₁.heap.objs.size] → (s₁.heap.push { cls := .type "list_iterator", data := .fields #[.ref ax, .int 0 0] }).get? b = some o → s₃.heap.get? b = some o) → ∀ b o, s₁.heap.get? b = some o → s₃.heap.get? b = some o :=
    fun s₃ hk b o e => hk b o (fun hm => by rcases List.mem_cons.mp hm with rfl | hm; exact Nat.lt_irrefl _ (Heap.lt_size e); cases hm) (Heap.get?_push_of_some _ e)
  refine wpAny_pyIter_list hl ?_
  refine newDict_acc (comp_block_walkCD (knd := PySem.strKind prog w) (RR := fun acc C r s' => acc = .ref (s₁.heap.push { cls := .type "list_iterator", data := .fields #[.ref ax, .int 0 0] }).objs.size → compPost (model prog w) A E (some (assign (.Name y py) env)) (fun _ s' => Q .next s') acc C r s') (Walks.list hh _ _ (Nat.ne_of_lt hlt) ([] : List Value).toArray) (Nat.zero_le _) (fun _ => true)
    (fun _ _ => True) (fun _ _ => True) hcell hkind hx ⟨⟨_, Heap.get?_push_size _ rfl, rfl, rfl⟩, hl.push _⟩ ?_ ⟨?_, ?_, ?_⟩ ?_) (fun s' h' => wpAny_mono h' (fun cenv s₄ h₄ => codeAny_mono h₄ (fun r s'' z => z rfl)) fun _ _ e => e)
  · intro b hb
    show b < (s₁.heap.push _).objs.size
    rw [Heap.size_push]
    rcases List.mem_cons.mp hb with rfl | hb
    · exact Nat.lt_succ_self _
    · rcases List.mem_cons.mp hb with rfl | hb
      · exact Nat.lt_succ_of_lt hlt
      · cases hb
  · intro C i v s₃ m₃ E' hP hn hm hk
    simp at hP
  · intro C i v s₃ m₃ E' hP hp' hn hm hk
    simp at hP
  · intro C i v s₃ m₃ E' hP hp' hn hm hk
    simp at hP
  · intro D C h' tk m' kvs vs' hD hC hDC hnC hlD hlen hP hF hk hDe
    have hsm : (D == sysModules) = false := by rw [Value.ref.inj hDe]; exact (F.push _).notModules hlow
    have e : vs' = [] := List.length_eq_zero_iff.mp (by simpa using hlen)
    subst e
    have ekv : kvs = [] := by
      have := hF.length_le
      simpa using this
    subst ekv
    have hn : (s₁.heap.push { cls := .type "list_iterator", data := .fields #[.ref ax, .int 0 0] }).Ns env.locals m := F.ns.push _
    have hLf : env.locals ∉ [s₁.heap.objs.size] := fun hm => by
      rcases List.mem_cons.mp hm with e | hm
      · exact Nat.lt_irrefl _ (e ▸ F.ns.lt)
      · cases hm
    have hLC : env.locals ≠ C := by rintro rfl; obtain ⟨o, _, _, ho, _⟩ := hn; rw [hC] at ho; cases ho
    have hLD : env.locals ≠ D := by rintro rfl; obtain ⟨o, _, _, ho, _⟩ := hn; rw [hD] at ho; cases ho
    show wpAny _ A (assign (.Name y py) env (.ref D)) _ _ _
    refine wpAny_assign_Name (wpAny_storeName_local hy (hn.at' fun o e => hk _ o hLf e) (fun h₂ hn₂ hs₂ => ?_) hp)
    refine ⟨m', hnC.sameBut hs₂ (Ne.symm hLC), fun h₃ hs₃ => ?_⟩
    have keep : ∀ b o, b ≠ env.locals → s₁.heap.get? b = some o → h₃.get? b = some o := fun b o hb e =>
      hs₃.extBut b o (by rintro rfl; rw [Heap.get?_push_of_some _ e] at hC; cases hC) (hs₂.extBut b o hb (up { s₁ with heap := h' } hk b o e))
    obtain ⟨o, ho, hd⟩ := Heap.dictOf_iff.mp ((hlD.extBut hs₂.extBut (Ne.symm hLD)).extBut hs₃.extBut hDC)
    have hnD : ∀ b x, s₁.heap.get? b = some x → b ≠ D := fun b x e q => by rw [q] at e; rw [Heap.get?_push_of_some _ e] at hD; cases hD
    refine hQ D o h₃ _ ⟨hn₂.sameBut hs₃ hLC, fun b o e => keep b o (Nat.ne_of_lt (Nat.lt_of_lt_of_le (Heap.lt_size e) F.above)) (F.keep b o e), F.above⟩
      (fun p hp => ?_) (fun p hp => hnD _ _ (N p hp).1) hd hsm
    rcases List.mem_cons.mp hp with rfl | hp
    · refine ⟨ho, Ne.symm hLD, ?_⟩
      cases e : h₀.get? D with
      | none => rfl
      | some o' => rw [Heap.get?_push_of_some _ (F.keep _ _ e)] at hD; cases hD
    · exact ⟨keep _ _ (N p hp).2.1 (N p hp).1, (N p hp).2⟩
theorem lo0 (h₀ : Heap) : Obj.IsDictOf (PySem.strKind prog w) (W.dictOf [] 0) [] := by
  obtain ⟨o, ho, hd⟩ := Heap.dictOf_iff.mp (Heap.DictOf.new (knd := PySem.strKind prog w) h₀)
  have e : (h₀.push { cls := .type "dict", data := .dict #[] }).get? h₀.objs.size = some { cls := .type "dict", data := .dict #[] } := Heap.get?_push_size _ rfl
  rw [e] at ho
  cases ho
  exact hd
end
end
section
/-- a class under dict that is made by dict.__new__ -/
def dmakesIn (K : Frag) (C : Addr) : Bool := match K.lookup C with
  | some ⟨_, _, .cls cd, sl⟩ => !cd.hasDel && (sl.toList[4]?).join == some (.builtin "dict.__new__") && !cd.mro.isEmpty && cd.mro.contains (.ref C) && cd.mro.contains (.type "dict") &&
      !(cd.mro.any fun | .type n => !["dict", "object", "collections.defaultdict", "collections.OrderedDict"].contains n | _ => false)
  | _ => false
theorem dn_kind : builtinKind "dict.__new__" = some .builtinFn := by decide +kernel
theorem dn_split : splitId "dict.__new__" = some ("dict", "__new__") := by decide +kernel
theorem dn_quiet : ("dict.__new__" : String).startsWith "lifetime." = false := by decide +kernel
theorem dn_row : Manifest.signature? "dict.__new__" = none ∨ ∃ sig, Manifest.signature? "dict.__new__" = some sig := by cases Manifest.signature? "dict.__new__" <;> simp
structure DMakes (M : Model) (h : Heap) (C : Addr) : Prop where
  obj : ∃ oc od cd sl, h.get? C = some ⟨oc, od, .cls cd, sl⟩ ∧ cd.hasDel = false ∧ cd.mro.isEmpty = false ∧ (cd.mro.any fun | .type n => !["dict", "object", "collections.defaultdict", "collections.OrderedDict"].contains n | _ => false) = false
  made : Looks M h (Bind.madeBy (.ref C)) (some "dict.__new__")
  base : Looks M h (Bind.staticBase (.ref C)) (.ref C)
  self : Looks M h (isSubtype (.ref C) (.ref C)) true
  top : Looks M h (isSubtype (.ref C) (.type "dict")) true
theorem dmakes_of {K : Frag} {M : Model} {h : Heap} (X : K.In h) {C : Addr} (e : dmakesIn K C = true) : DMakes M h C := by
  unfold dmakesIn at e
  split at e
  · rename_i oc od cd sl ho
    simp only [Bool.and_eq_true, Bool.not_eq_true', beq_iff_eq] at e
    obtain ⟨⟨⟨⟨⟨e2, e3⟩, e4⟩, e5⟩, e6⟩, e7⟩ := e
    have hc : clsIn K C = some cd := by unfold clsIn; rw [ho]
    have hm : Looks M h (mroOf (.ref C)) cd.mro := (looks_clsIn X hc).andThen .now
    obtain ⟨c, l, hl⟩ : ∃ c l, cd.mro = c :: l := by cases q : cd.mro with | nil => rw [q] at e4; cases e4 | cons c l => exact ⟨c, l, rfl⟩
    have made : Looks M h (Bind.madeBy (.ref C)) (some "dict.__new__") := by
      intro A Q E s k q
      unfold Bind.madeBy
      refine wpAny_bind (hm A _ E s k ?_)
      rw [hl, List.forIn_cons]
      refine wpAny_bind (wpAny_bind (wpAny_bind (wpAny_bind (wpAny_loadPart (k _ _ (X _ _ ho)) (wpAny_pure ?_)))))
      dsimp only
      rw [← Array.getElem?_toList, e3]
      exact wpAny_pure (wpAny_pure (wpAny_pure q))
    refine ⟨⟨oc, od, cd, sl, X _ _ ho, e2, e4, e7⟩, made, ?_, looks_mroIn X ?_, looks_mroIn X ?_⟩
    · intro A Q E s k q
      unfold Bind.staticBase
      refine wpAny_bind (hm A _ E s k ?_)
      rw [hl, List.forIn_cons]
      exact wpAny_bind (wpAny_bind (wpAny_bind (made A _ E s k (wpAny_pure (wpAny_pure (wpAny_pure q))))))
    · unfold mroIn; rw [hc, Option.bind_some, if_neg (by rw [e4]; decide), e5]
    · unfold mroIn; rw [hc, Option.bind_some, if_neg (by rw [e4]; decide), e6]
  · cases e
section
variable {prog : Program} {w : World} {A : Around} {K : Frag} {C : Addr} {R : Result → Shared → Prop} {h : Heap} {g : Array GenState} {d : Drawn} {t : Nat} {os : OsState}
theorem dn_sig : Manifest.signature? "dict.__new__" = some { machinery := .any, full := "dict", short := "dict", receiver := .cls, params := [{ name := "args", kind := .varPos, required := false }, { name := "kwargs", kind := .varKw, required := false }] } := by kernel_rfl
theorem dict_new {rest : List Value} (Y : DMakes (model prog w) h C) (hT : Looks (model prog w) h (isType (.ref C)) true)
    (hq : R (.ok (.ret (.ref (h.objs.size + 1)))) ⟨(h.push W.emptyDict).push { cls := .ref C, dict := some h.objs.size, data := .dict #[] 0, slots := #[] }, g, d, t, os⟩) :
    codeAny (model prog w) A (.call (.builtin "dict.__new__") ⟨.ref C :: rest, []⟩) R ⟨h, g, d, t, os⟩ := by
  obtain ⟨⟨oc, od, cd, sl, hC, e2, e4, e7⟩, made, base, self, top⟩ := Y
  refine codeAny_call_builtin_code (Code.quiet_builtin _ dn_quiet) ?_
  simp only [checkBuiltinCall, dn_kind, dn_split, dn_sig]
  have args : Bind.checkArgs "dict.__new__" { machinery := .any, full := "dict", short := "dict", receiver := .cls, params := [{ name := "args", kind := .varPos, required := false }, { name := "kwargs", kind := .varKw, required := false }] } ⟨.ref C :: rest, []⟩ = pure () := by
    kernel_rfl
  rw [args]
  repeat (first | simp only [bne_self_eq_false, Bool.false_eq_true, if_false] | lk)
  refine codeAny_builtin F.kt_entry_dict_new ?_
  unfold Builtin.«dict.__new__»
  have hm : Looks (model prog w) h (mroOf (.ref C)) cd.mro := ((Looks.ld (part := none) hC).andThen .now).andThen .now
  repeat lk
  rw [if_neg (by intro z; exact absurd (e7.symm.trans z) Bool.false_ne_true)]
  refine wpAny_bind (wpAny_alloc (wpAny_bind ?_))
  unfold newObj
  dsimp only
  show wpAny _ _ (newObjAsIs _ _ _) _ _ _
  unfold newObjAsIs classHasDel
  refine wpAny_bind (wpAny_alloc (wpAny_bind (wpAny_bind (wpAny_load (Heap.get?_push_of_some _ (Heap.get?_push_of_some _ hC)) (wpAny_pure ?_)))))
  rw [e2]
  refine wpAny_pure (wpAny_pure ?_)
  show R _ _
  rw [Heap.size_push]
  exact hq
theorem make_dict {rest : List Value} {init : Value} (Y : DMakes (model prog w) h C) (hT : Looks (model prog w) h (isType (.ref C)) true) (hi : Looks (model prog w) h (typeLookup (.ref C) "__init__") (some init))
    (call : Looks (model prog w) h (specialOf (.ref C) "__call__") (some (.builtin "type.__call__"))) (typ : Looks (model prog w) h (isInstance (.ref C) (.type "type")) true)
    (hb : ∀ self, Looks (model prog w) h (bindSpecial init self) (init, [self]))
    (hq : codeAny (model prog w) (A.under (.builtin "type.__call__" ⟨.ref C :: rest, []⟩)) (.call init ⟨.ref (h.objs.size + 1) :: rest, []⟩) (InitBack (h.objs.size + 1) R) ⟨(h.push W.emptyDict).push { cls := .ref C, dict := some h.objs.size, data := .dict #[] 0, slots := #[] }, g, d, t, os⟩) :
    codeAny (model prog w) A (.call (.ref C) ⟨rest, []⟩) R ⟨h, g, d, t, os⟩ := by
  have Y' := Y
  obtain ⟨⟨oc, od, cd, sl, hC, e2, e4, e7⟩, made, base, self, top⟩ := Y
  refine codeAny_of_tree ?_
  show wpAny _ _ (callAny (.ref C) _) _ _ _
  refine nd_load hC ?_
  show wpAny _ _ (callAny.viaDunder (.ref C) _) _ _ _
  unfold callAny.viaDunder
  refine wpAny_bind (call.at ?_)
  dsimp only
  rw [tc_bind]
  refine wpAny_bind (wpAny_pure (wpAny_bind (wpAny_pure ?_)))
  refine wpAny_pure (a := Fin.again (.call (.builtin "type.__call__") ⟨.ref C :: rest, []⟩)) (And.intro rfl ?_)
  refine codeAny_call_builtin_at (Code.quiet_builtin _ (by decide +kernel)) entry_typeCall (check_slot tc_kind tc_split typ (tc_args _ _ _) ?_)
  unfold Builtin.«type.__call__»
  have hm : Looks (model prog w) h (mroOf (.ref C)) cd.mro := ((Looks.ld (part := none) hC).andThen .now).andThen .now
  repeat (first | simp only [e4, Bool.false_eq_true, if_false] | with_reducible refine wpAny_call ?_ | lk)
  refine dict_new Y' hT ?_
  have k : ∀ b o, h.get? b = some o → ((h.push W.emptyDict).push { cls := .ref C, dict := some h.objs.size, data := .dict #[] 0, slots := #[] }).get? b = some o := fun b o e => Heap.get?_push_of_some _ (Heap.get?_push_of_some _ e)
  have hx : ((h.push W.emptyDict).push { cls := .ref C, dict := some h.objs.size, data := .dict #[] 0, slots := #[] }).get? (h.objs.size + 1) = some { cls := .ref C, dict := some h.objs.size, data := .dict #[] 0, slots := #[] } := by heap_get
  have t1 : Looks (model prog w) ((h.push W.emptyDict).push { cls := .ref C, dict := some h.objs.size, data := .dict #[] 0, slots := #[] }) (typeOf (.ref (h.objs.size + 1))) (.ref C) := (Looks.ld hx).andThen .now
  have s1 := self.keeps k
  have i1 := hi.keeps k
  have b1 := (hb (.ref (h.objs.size + 1))).keeps k
  unfold isInstance callSpecial? specialOf
  repeat (first | with_reducible refine wpAny_call ?_ | lk)
  refine codeAny_mono hq fun r s' z => ?_
  rcases r with e | (v | _ | _ | _) <;> first | exact z | exact z.elim | skip
  obtain ⟨rfl, z⟩ := z
  exact wpAny_pure (wpAny_pure z)
end
theorem under_tc {dp un : Nat} {gd : Option (List Code)} {cn : Str} {cs : Scope} {a : Addr} {ccd : Value} {cl : List (Str × Addr)} {outer : List Env} {L C : Addr} {rest : List Value} {kw : List (Str × Value)} : (ktrTop dp un gd cn cs L a ccd cl outer).under (.builtin "type.__call__" ⟨.ref C :: rest, kw⟩) = (ktrTop (dp+1) (un+1) gd cn cs L a ccd cl outer) := rfl
end
section
section
variable {prog : Program} {w : World} {A : Around} {E : Value → Shared → Prop} {s : Shared} {h₀ : Heap} {L : Addr} {m mg mb : Str → Option Value} {news : List (Addr × Obj)} {K : Frag} {p : Program} {loose : List Str} {mean : ExcName → Option Value} {x C D f f2 cc cda so : Addr} {ox : Obj} {odx : Option Obj}
/-- super(): the base of super().name, in a def whose closure has more names -/
theorem node_cl {body : List Stmt} {q : Str} {scope : Scope} {cls : List (Str × Addr)} {p0 p1 : Pos} {attr : Str} {whole : Sem Value} {fd : FuncData} {ar : Arg} {vs : Array Value} {file : Str} {tf : Tok} {oc ccl cl : Value} {od cdd cld : Option Addr} {osl ccs csl : Array (Option Value)} {cdD : ClassData} {Q : Value → Shared → Prop}
    (F : Fr h₀ L s.heap m) (X₀ : K.In h₀) (N : News h₀ L s.heap news) (T : Top p loose mean mg mb h₀)
    (hcls : cls.lookup ("__class__" : Str) = some cc) (hf : K.lookup f = some ⟨oc, od, .func fd, osl⟩) (hp : (fd.params.posonlyargs ++ fd.params.args).head? = some ar) (hv : m ar.arg = some (.ref x)) (I : InstAt s.heap x ox C odx)
    (hcode : K.lookup cda = some ⟨ccl, cdd, .fields vs, ccs⟩) (hvs : vs[2]? = some (.str file tf)) (hfile : ((prog.main.file : Str) == file) = true)
    (hcell : K.lookup cc = some ⟨cl, cld, .cell (some (.ref D)), csl⟩) (hD : clsIn K D = some cdD) (hsub : mroIn K C (.ref D) = some true) (hsuper : nsIn K mainGlobals "super" = some none)
    (hat : (attr == ("__class__" : Str)) = false) (hks : scope.names.lookup ("super" : Str) = some .globalImplicit) (hkc : scope.names.lookup ("__class__" : Str) = some .free) (hka : scope.names.lookup ar.arg = some .local) (hk : scope.kind = .function)
    (htop : (prog.main.scope.names.lookup ("super" : Str)).isSome = false) (hboot : bootBuiltins "super" = some (.type "super"))
    (h : ∀ so h', Fr h₀ L h' m → News h₀ L h' ((so, ks_superObj D x C) :: news) → (∀ p ∈ news, p.1 < so) → Q (.ref so) { s with heap := h' }) :
    _root_.PySem.wpAt (model prog w) A (.func body (envX q scope L f (.ref cda) cls)) (attributeBase (.Call (.Name "super" p0) [] [] p1) attr (envX q scope L f (.ref cda) cls) whole) Q E s := by
  have X : K.In s.heap := X₀.keeps F.keep
  obtain ⟨hh, g, d, t, os⟩ := s
  obtain ⟨oD, hD1, hD2⟩ : ∃ oD, hh.get? D = some oD ∧ oD.data = .cls cdD := by
    unfold clsIn at hD
    split at hD
    · rename_i c d cd' sl ho
      cases hD
      exact ⟨_, X _ _ ho, rfl⟩
    · cases hD
  refine ks_wpAt_super_base (env := envX q scope L f (.ref cda) cls) hks hkc hat rfl (X _ _ hf) rfl hp rfl (X _ _ hcode) rfl hvs hfile htop ?_
  refine ks_loadName_global hk hks (loadGlobal_builtin (env := envX q scope L f (.ref cda) cls) (T.g.keeps F.keep) (mg_none_of X₀ T.g hsuper) (T.b.keeps F.keep) ((T.builtins _ (by decide +kernel)).trans hboot) ⟨rfl, ?_⟩)
  refine wpAny_loadName_free hk hkc hcls ⟨_, X _ _ hcell, rfl⟩ ?_
  refine wpAny_loadName_local hk hka F.ns hv ?_
  refine ks_wpAny_isType_cls hD1 hD2 ⟨rfl, ?_⟩
  refine ks_wpAny_call_super hD1 hD2 I.at_ I.cls (fun c e => ?_) (looks_mroIn X hsub) (fun h' e k => ?_)
  · have := I.no
    unfold notCls at this
    rw [e] at this
    exact Bool.noConfusion this
  · obtain ⟨F', N', l'⟩ := ks_newsPush (s := ⟨hh, g, d, t, os⟩) F N rfl e k
    exact h _ _ F' N' l'
end
section
variable {prog : Program} {w : World} {A : Around} {E : Value → Shared → Prop} {h : Heap} {g : Array GenState} {d : Drawn} {t : Nat} {os : OsState}
/-- super(D, x) where x is a class under D -/
theorem call_superC {D x : Addr} {oD ox : Obj} {cdD cdx : ClassData} {Q : Value → Shared → Prop}
    (hD : h.get? D = some oD) (hDt : oD.data = .cls cdD) (hx : h.get? x = some ox) (hxt : ox.data = .cls cdx)
    (hsub : Looks (model prog w) h (isSubtype (.ref x) (.ref D)) true)
    (hq : ∀ h', h'.get? h.objs.size = some { cls := .type "super", dict := none, data := .fields #[.ref D, .ref x, .ref x], slots := #[] } → (∀ y o, h.get? y = some o → h'.get? y = some o) → Q (.ref h.objs.size) ⟨h', g, d, t, os⟩) :
    wpAny (model prog w) A (call (.type "super") [.ref D, .ref x]) Q E ⟨h, g, d, t, os⟩ := by
  refine ks_callType_codesW (Q₁ := fun obj s₁ => obj = .ref h.objs.size ∧ s₁ = ⟨h.push { cls := .type "super", data := .fields #[.none, .none, .none] }, g, d, t, os⟩) F.ks_called_super (ks_wpAny_checkTypeCall_super hD hDt) F.ks_entry_super_init
    (ks_code_super_new _ _ ⟨rfl, rfl⟩) fun obj s₁ h₁ => ?_
  obtain ⟨rfl, rfl⟩ := h₁
  have up : ∀ y o, h.get? y = some o → (h.push { cls := .type "super", data := .fields #[.none, .none, .none] }).get? y = some o := fun y o e => Heap.get?_push_of_some _ e
  have hso : (h.push { cls := .type "super", data := .fields #[.none, .none, .none] }).get? h.objs.size = some { cls := .type "super", dict := none, data := .fields #[.none, .none, .none], slots := #[] } := Heap.get?_push_at rfl rfl
  have hD' := up _ _ hD
  have hx' := up _ _ hx
  have hsub' := hsub.keeps up
  refine ⟨⟨_, hso, rfl⟩, F.ks_initArgs_super _ _ _, ?_⟩
  unfold Builtin.«super.__init__» noKeywords
  repeat (first | (with_reducible refine ks_wpAny_isType_cls hD' hDt ?_) | (with_reducible refine ks_wpAny_isType_cls hx' hxt ?_) | (with_reducible refine Looks.at hsub' ?_) | (with_reducible refine ks_wpAny_super_set3 hso ?_) | wp_step)
  all_goals first
    | (intro h' e k; exact ⟨rfl, hq h' e fun y o ey => k y o (Nat.ne_of_lt (Heap.lt_size ey)) (up y o ey)⟩)
    | (refine ks_wpAny_super_set3 hso ?_; intro h' e k; exact ⟨rfl, hq h' e fun y o ey => k y o (Nat.ne_of_lt (Heap.lt_size ey)) (up y o ey)⟩)
end
section
variable {prog : Program} {w : World} {A : Around} {E : Value → Shared → Prop} {s : Shared} {h₀ : Heap} {L : Addr} {m mg mb : Str → Option Value} {news : List (Addr × Obj)} {K : Frag} {p : Program} {loose : List Str} {mean : ExcName → Option Value} {x D f f2 cc cda so : Addr}
/-- the same in a __new__: the first argument is a class -/
theorem node_cls {body : List Stmt} {q : Str} {scope : Scope} {cls : List (Str × Addr)} {p0 p1 : Pos} {attr : Str} {whole : Sem Value} {fd : FuncData} {ar : Arg} {vs : Array Value} {file : Str} {tf : Tok} {oc ccl cl : Value} {od cdd cld : Option Addr} {osl ccs csl : Array (Option Value)} {cdD cdx : ClassData} {Q : Value → Shared → Prop}
    (F : Fr h₀ L s.heap m) (X₀ : K.In h₀) (N : News h₀ L s.heap news) (T : Top p loose mean mg mb h₀)
    (hcls : cls.lookup ("__class__" : Str) = some cc) (hf : K.lookup f = some ⟨oc, od, .func fd, osl⟩) (hp : (fd.params.posonlyargs ++ fd.params.args).head? = some ar) (hv : m ar.arg = some (.ref x)) (hx : clsIn K x = some cdx)
    (hcode : K.lookup cda = some ⟨ccl, cdd, .fields vs, ccs⟩) (hvs : vs[2]? = some (.str file tf)) (hfile : ((prog.main.file : Str) == file) = true)
    (hcell : K.lookup cc = some ⟨cl, cld, .cell (some (.ref D)), csl⟩) (hD : clsIn K D = some cdD) (hsub : mroIn K x (.ref D) = some true) (hsuper : nsIn K mainGlobals "super" = some none)
    (hat : (attr == ("__class__" : Str)) = false) (hks : scope.names.lookup ("super" : Str) = some .globalImplicit) (hkc : scope.names.lookup ("__class__" : Str) = some .free) (hka : scope.names.lookup ar.arg = some .local) (hk : scope.kind = .function)
    (htop : (prog.main.scope.names.lookup ("super" : Str)).isSome = false) (hboot : bootBuiltins "super" = some (.type "super"))
    (h : ∀ so h', Fr h₀ L h' m → News h₀ L h' ((so, ks_superObj D x x) :: news) → (∀ p ∈ news, p.1 < so) → Q (.ref so) { s with heap := h' }) :
    _root_.PySem.wpAt (model prog w) A (.func body (envX q scope L f (.ref cda) cls)) (attributeBase (.Call (.Name "super" p0) [] [] p1) attr (envX q scope L f (.ref cda) cls) whole) Q E s := by
  have X : K.In s.heap := X₀.keeps F.keep
  obtain ⟨hh, g, d, t, os⟩ := s
  have isC : ∀ {B : Addr} {cd : ClassData}, clsIn K B = some cd → ∃ oD, hh.get? B = some oD ∧ oD.data = .cls cd := fun {B cd} hD => by
    unfold clsIn at hD
    split at hD
    · rename_i c d cd' sl ho
      cases hD
      exact ⟨_, X _ _ ho, rfl⟩
    · cases hD
  obtain ⟨oD, hD1, hD2⟩ := isC hD
  obtain ⟨ox, hx1, hx2⟩ := isC hx
  refine ks_wpAt_super_base (env := envX q scope L f (.ref cda) cls) hks hkc hat rfl (X _ _ hf) rfl hp rfl (X _ _ hcode) rfl hvs hfile htop ?_
  refine ks_loadName_global hk hks (loadGlobal_builtin (env := envX q scope L f (.ref cda) cls) (T.g.keeps F.keep) (mg_none_of X₀ T.g hsuper) (T.b.keeps F.keep) ((T.builtins _ (by decide +kernel)).trans hboot) ⟨rfl, ?_⟩)
  refine wpAny_loadName_free hk hkc hcls ⟨_, X _ _ hcell, rfl⟩ ?_
  refine wpAny_loadName_local hk hka F.ns hv ?_
  refine ks_wpAny_isType_cls hD1 hD2 ⟨rfl, ?_⟩
  refine call_superC hD1 hD2 hx1 hx2 (looks_mroIn X hsub) (fun h' e k => ?_)
  obtain ⟨F', N', l'⟩ := ks_newsPush (s := ⟨hh, g, d, t, os⟩) F N rfl e k
  exact h _ _ F' N' l'
end
section
variable {prog : Program} {w : World} {A : Around} {E : Value → Shared → Prop} {h : Heap} {g : Array GenState} {d : Drawn} {t : Nat} {os : OsState}
theorem getattr_sup {so : Addr} {fs : Array Value} {v : Value} {h' : Heap} {name : Str} {expr : Bool} {Q : Value → Shared → Prop}
    (hso : h.get? so = some { cls := .type "super", dict := none, data := .fields fs, slots := #[] }) (hv : handedOut v = pure v)
    (hga : wpAny (model prog w) A.in1 (Builtin.«super.__getattribute__» ⟨[.ref so, .str name t], []⟩) (fun f s' => ∃ x, f = .done (.ret x) ∧ x = v ∧ s' = ⟨h', g, d, t + 1, os⟩) (fun _ _ => False) ⟨h, g, d, t + 1, os⟩)
    (hq : Q v ⟨h', g, d, t + 1, os⟩) :
    wpAny (model prog w) A (getAttr (.ref so) name expr) Q E ⟨h, g, d, t, os⟩ := by
  have hlk := F.ks_slot_super_ga.lookup
  have hT : ∀ t', (⟨h, g, d, t', os⟩ : Shared).TypeIs (.ref so) "super" := fun _ => ⟨_, hso, rfl⟩
  unfold getAttr getAttrBy
  refine wpAny_bind (wpAny_mkText (wpAny_holding (wpAny_bind (wpAny_typeOf (hT _) (wpAny_bind (wpAny_of_eq hlk ?_))))))
  show wpAny _ _ (getAttrByItsOwn (.ref so) (.str name t) (.type "super") (.builtin "super.__getattribute__") true expr) _ _ _
  unfold getAttrByItsOwn hookBefore callGetattribute boundAndCalled
  refine wpAny_bind (wpAny_of_eq (show (if onTheHeap (.type "super") then typeLookup (.type "super") "__getattr__" else pure none) = pure none from rfl) ?_)
  refine wpAny_bind (wpAny_attempt (wpAny_holding ?_))
  rw [show (expr && onTheHeap (Value.builtin "super.__getattribute__")) = false from Bool.and_false _, if_neg Bool.false_ne_true]
  show wpAny _ _ (bindSpecial (.builtin "super.__getattribute__") (.ref so) >>= _) _ _ _
  refine wpAny_bind (wpAny_of_eq (F.ks_slot_super_ga.bind _) ?_)
  refine wpAny_mono (Q := fun x s' => x = v ∧ s' = ⟨h', g, d, t + 1, os⟩) (E := fun _ _ => False)
    (wpAny_call_entry F.ks_slot_super_ga (hT _) F.ks_entry_super_ga hga (F.ks_gaArgs_super _ _)) (fun x s' hv' => ?_) fun _ _ z => z.elim
  obtain ⟨rfl, rfl⟩ := hv'
  first | exact wpAny_of_eq hv (wpAny_pure hq) | exact wpAny_of_eq hv hq | exact wpAny_pure hq | exact wpAny_pure (wpAny_pure hq)
end
section
variable {prog : Program} {w : World} {A : Around} {E : Value → Shared → Prop} {s : Shared} {h₀ : Heap} {L : Addr} {m : Str → Option Value} {news : List (Addr × Obj)} {K : Frag} {x C D so f2 : Addr} {ox : Obj} {odx : Option Obj}
/-- super().name where the name leads to a def -/
theorem sup_fn {name : Str} {expr : Bool} {Q : Value → Shared → Prop} (F : Fr h₀ L s.heap m) (X₀ : K.In h₀) (N : News h₀ L s.heap news) (hso : (so, ks_superObj D x C) ∈ news) (I : InstAt s.heap x ox C odx) (ho : nsIn K cStatics "thirdparty.any" = some none)
    (hm : ks_superIn K C D name = some (some (.ref f2))) (ht : typeIn K (.ref f2) = some (.type "function")) (hn : (name == ("__class__" : Str)) = false)
    (h : ∀ q h', Fr h₀ L h' m → News h₀ L h' ((q, methodObj (.ref f2) (.ref x)) :: news) → (∀ p ∈ news, p.1 < q) → Q (.ref q) { s with heap := h', toks := s.toks + 1 }) : wpAny (model prog w) A (getAttr (.ref so) name expr) Q E s := by
  have X : K.In s.heap := X₀.keeps F.keep
  obtain ⟨hh, g, d, t, os⟩ := s
  cases hc : clsIn K C with
  | none => unfold ks_superIn at hm; rw [hc] at hm; cases hm
  | some cd =>
    unfold ks_superIn at hm
    rw [hc] at hm
    obtain ⟨of, hof, hofc⟩ : ∃ of, hh.get? f2 = some of ∧ of.cls = .type "function" := by
      have ht' : (K.lookup f2).map (·.cls) = some (.type "function") := ht
      cases z : K.lookup f2 with
      | none => rw [z] at ht'; cases ht'
      | some of => rw [z] at ht'; exact ⟨of, X _ _ z, Option.some.inj ht'⟩
    obtain ⟨F', N', l'⟩ := ks_newsPush (s := ⟨hh, g, d, t, os⟩) (o := methodObj (.ref f2) (.ref x)) F N rfl (Heap.get?_push_at rfl rfl) (fun b o e => Heap.get?_push_of_some _ e)
    refine getattr_sup (N _ hso).1 rfl (ks_wpAny_super_ga (N _ hso).1 (looks_opaque X ho) (l₀ := cd.mro) ?_ rfl X hm hof hofc (ks_ne X I hc) hn ⟨_, rfl, rfl, rfl⟩) (h _ _ F' N' l')
    exact fun A Q E s k q => wpAny_bind ((looks_clsIn X hc) A _ E s k (wpAny_pure q))
end
end
section
theorem off_Pmi : True := by
  w_top off
  exact trivial
local macro_rules | `(tactic| walk_at "p_enter") => `(tactic| (k_dflt (refine' pureCall _ ?k1 ?k2 ?k3 ?k4 ?k5 ?kF ?kK ?k6 ?k7 ?k8 ?k9 ?kB ?c5 ?c2 ?c3 ?c4 ?cp ?_; (case cp => first | assumption | ((try dsimp only); omega)); (case kF => exact rfl); (case kK => first | assumption | exact rfl); (case k1 => k_asm); (case k2 => k_asm); (case k3 => k_asm); (case k4 => k_asm); (case k5 => k_asm); (case k6 => k_is); (case k7 => k_is); (case k8 => ktr_room); (case k9 => first | exact BindsTo.of_eq rfl | exact binds_K (by k_in) rfl (by k_is) rfl rfl rfl); (case c5 => decide); (case kB => exact locs rfl); (case c2 => exact rfl); (case c3 => exact rfl); (case c4 => exact rfl); k_whole; intro g' L' h' tk' htk' F' N' B' X' T' hin'; (try dsimp only); (try k_fold))))
local macro_rules | `(tactic| walk_at "h_enter") => `(tactic| (k_dflt ((case cp => first | assumption | ((try dsimp only); omega)); (case k1 => k_asm); (case k2 => k_asm); (case k3 => k_asm); (case kF => exact rfl); (case kK => first | assumption | exact rfl); (case k5 => k_asm); (case k6 => k_is); (case k7 => k_is); (case k8 => ktr_room); (case k9 => first | exact BindsTo.of_eq rfl | exact binds_K (by k_in) rfl (by k_is) rfl rfl rfl); (case c5 => decide); (case kB => exact locs rfl); (case c2 => exact rfl); (case c3 => exact rfl); (case c4 => exact rfl); k_whole; intro g' L' h' tk' htk' F' N' B' X' T' hin'; (try dsimp only); (try k_fold))))
local macro_rules | `(tactic| walk_at "execs cons") => `(tactic| (k_here; (with_reducible refine wpAny_execs_cons ?_); try dsimp only))
local macro_rules | `(tactic| walk_at "execs cons") => `(tactic| (k_here; (with_reducible refine execs_consT ?hp ?_); (case hp => ((try dsimp only); omega)); try dsimp only))
local macro_rules | `(tactic| walk_at "TokOk") => `(tactic| (intro hpT; (try dsimp only at hpT); (try dsimp only)))
local macro_rules | `(tactic| walk_at "call builtin:str.replace") => `(tactic| ((with_reducible show wpAny _ _ (call (Value.builtin "str.replace") [Value.str _ _, Value.str _ _, Value.str _ _]) _ _ _); (refine replN ?k0 ?k1 ?k2 ?k3 ?k4 ?k5 ?k6 ?_; (case k0 => (try dsimp only); omega); (case k1 => show @Ne Nat _ _; omega); (case k2 => show @Ne Nat _ _; omega); (case k3 => show @Ne Nat _ _; omega); (case k4 => decide); (case k5 => omega); (case k6 => decide)); intro _ _ _ _ _ _; (try dsimp only)))
local macro_rules | `(tactic| walk_at "exec For Name Subscript cons nil") => `(tactic| (k_here; refine stop_ ?_))
local macro_rules | `(tactic| walk_at "exec For Name Call cons nil") => `(tactic| (k_here; refine stop_ ?_))
local macro_rules | `(tactic| walk_at "exec While Compare cons nil") => `(tactic| (k_here; refine stop_ ?_))
local macro_rules | `(tactic| walk_at "exec While BoolOp cons nil") => `(tactic| (k_here; refine stop_ ?_))
local macro_rules | `(tactic| walk_at "call ref") => `(tactic| (k_here; refine stop_ ?_))
local macro_rules | `(tactic| walk_at "call ref cons nil") => `(tactic| (k_here; refine stop_ ?_))
local macro_rules | `(tactic| walk_at "call ref nil nil") => `(tactic| (k_here; refine stop_ ?_))
local macro_rules | `(tactic| walk_at "pyIter ref") => `(tactic| (k_here; refine stop_ ?_))
local macro_rules | `(tactic| walk_at "subscriptTail Name Call ref int") => `(tactic| (k_here; refine stop_ ?_))
local macro_rules | `(tactic| walk_at "InvPostN") => `(tactic| (refine stop_ ?_))
local macro_rules | `(tactic| walk_at "InvPostN next") => `(tactic| (refine stop_ ?_))
local macro_rules | `(tactic| walk_at "InvPostN cont") => `(tactic| (refine stop_ ?_))
local macro_rules | `(tactic| walk_at "InvEndN") => `(tactic| (refine stop_ ?_))
local macro_rules | `(tactic| walk_at "CompSrc") => `(tactic| (refine stop_ ?_))
local macro_rules | `(tactic| walk_at "CompSrc ref") => `(tactic| (refine stop_ ?_))
local macro_rules | `(tactic| walk_at "exec For Tuple Call cons nil") => `(tactic| (k_here; refine stop_ ?_))
local macro_rules | `(tactic| walk_at "wpAt") => `(tactic| (dsimp only; ks_step "execs cons"; refine ks_wpAt_execs_cons ?_))
local macro_rules | `(tactic| walk_at "exec Assign cons DictComp") => `(tactic| (k_here; refine stop_ ?_))
local macro_rules | `(tactic| walk_at "wpAt") => `(tactic| (k_dflt (refine ks_wpAt_Expr_any (e := Expr.Call (Expr.Attribute _ _ _) [Expr.Starred _ _] _ _) ?_); refine stop_ ?_))
local macro_rules | `(tactic| walk_at "d_enter") => `(tactic| (k_dflt (refine' bothAtC ?k1 ?k2 ?k3 ?k4 ?k5 ?kF ?kK ?k6 ?k7 ?k8 ?kV ?kQ ?kM ?kR ?kP ?kS ?kT ?x1 ?x2 ?x3 ?x4 ?x5 ?c2 ?c3 ?c4 ?_; (case kF => exact rfl); (case kK => first | assumption | exact rfl); (case k1 => k_asm); (case k2 => k_asm); (case k3 => k_asm); (case k4 => k_asm); (case k5 => k_asm); (case k6 => k_is); (case k7 => k_is); (case k8 => ktr_room); (case kV => kp_lit); (case kQ => exact rfl); (case kM => exact rfl); (case kR => exact rfl); (case kP => exact rfl); (case kS => exact fun _ => rfl); (case kT => exact fun _ _ => rfl); (case x1 => exact fun _ _ => rfl); (case x2 => exact fun _ => rfl); (case x3 => exact rfl); (case x4 => exact rfl); (case x5 => exact rfl); (case c2 => exact rfl); (case c3 => exact rfl); (case c4 => exact rfl); k_whole; intro C' D' g' L' h' tk' oc' hoc' l1 l2 hs' FG' l3 F' N' B' X' T'; (try dsimp only); (try k_fold))))
local macro_rules | `(tactic| k_inst) => `(tactic| exact instPm (by k_asm) (by k_mem) (by k_mem))
section
variable {w : World} {mean : ExcName → Option Value} {mg mb : Str → Option Value} {dp un : Nat} {gd : Option (List Code)} {cn : Str} {cs : Scope} {a : Addr} {ccd : Value} {cl : List (Str × Addr)} {outer : List Env} {A₀ : Around} {base h₀ : Heap} {L : Addr} {m : Str → Option Value} {s : Shared} {R : Result → Shared → Prop} {news : List (Addr × Obj)}
theorem pmi_call (P dd : Addr) (B : Below A₀ base outer h₀) (F : Fr h₀ L s.heap m) (X : (hd.heap_39 w.params).In h₀) (N : News h₀ L s.heap ((P, pmObj dd) :: (dd, W.emptyDict) :: news)) (T : TopC mean mg mb h₀) (hk : cs.kind = .function) (hd : dp + 30 < recursionLimit) (hu : un + 240 < cLine)
   (h : ∀ h' tk', Fr h₀ L h' m → News h₀ L h' ((P, pmObj dd) :: (dd, W.emptyDict) :: news) → R (.ok (.ret .none)) { s with heap := h', toks := tk' }) :
   codeAny (model PG w) (ktrTop dp un gd cn cs L a ccd cl outer) (.call (.ref 240) ⟨[.ref P, .none], []⟩) R s := by
  walk_at "d_enter"
  rename_i C D g L1 h1 tk1 oc hoc l1 l2 hs FG l3 F1 N1 B1 X1 T1
  k_steps
  rename Fr g _ _ _ => F2
  rename News g _ _ _ => N2
  (try dsimp only)
  refine slice_tup (C := C) F2 N2 (.tail _ (.tail _ (.head _))) (fun h5 F5 N5 l5 => ?_) ?hs ?ht
  case hs => with_unfolding_all rfl
  case ht => intro _; with_unfolding_all rfl
  clear F2 N2
  (try dsimp only)
  k_steps
  refine go_ ?_
  rename Fr g _ _ _ => F3
  rename News g _ _ _ => N3
  refine' dictcomp_none F3 N3 (modules_low T1.nolimit) ?sw rfl ?clos (by decide) rfl (by decide) rfl rfl rfl ?_ ?hs
  case sw => with_unfolding_all rfl
  case clos => with_unfolding_all rfl
  case hs => intro _; with_unfolding_all rfl
  have lo : Obj.IsDictOf (PySem.strKind PG w) (W.dictOf [] 0) [] := lo0 g
  k_steps
  rename Fr g _ _ _ => F4
  rename News g _ _ _ => N4
  refine go_ ⟨_, rfl, N4.isList (.head _), F4, fun p hp => N4 p (.tail _ (.tail _ hp)), fun E0 o0 h6 tk6 F6 N6 hap6 ho6 hs6 => ?_⟩
  clear F4 N4 F3 N3
  (try dsimp only)
  k_steps
  refine go_ (evalAt_skw ?_)
  refine node_cl (by k_asm) (by k_asm) (by k_asm) (by k_asm) (by rfl) (by k_is) (by rfl) (by rfl) (by k_inst) (by k_is) (by rfl) (by first | rfl | decide +kernel) (by k_is) (by k_is) (by k_is) (by k_is) (by decide) (by rfl) (by rfl) (by rfl) (by rfl) (by decide +kernel) (by first | boot_by_name | rfl | kernel_rfl) ?_
  intro so7 h7 F7 N7 l7
  refine sup_fn (K := Mine.hd.heap_39 w.params) F7 (by k_asm) N7 (.head _) (by k_inst) (by k_is) (by ks_is) (by k_is) (by decide) (fun q8 h8 F8 N8 l8 => ?_)
  clear F7 N7
  have N9 := N8.pushKeep W.emptyDict
  have F9 := F8.push W.emptyDict
  refine callWith_skw (C := h1.objs.size + 1) (D := D) (P := MethP (Mine.hd.heap_39 w.params) _ 84 (.ref P)) (N8 (h1.objs.size + 1, tup0) (by k_mem)).1 (N8 (D, W.dictOf [] 0) (by k_mem)).1 hs (fun Q' hQ => ?hx) (fun Q' hQ => ?hy) (keeps_M (by k_is)) (fun h10 hk10 => ⟨⟨hk10 _ _ (N8 _ (.head _)).1, X1.keeps fun b o e => hk10 b o (F8.keep b o e)⟩, ?_⟩)
  case hx =>
    refine wpAny_bind ?_
    clear F9 N9
    k_steps
    exact wpAny_bind (wpAny_standAt (wpAny_pure hQ))
  case hy =>
    refine wpAny_bind ?_
    clear F8 N8
    k_steps
    exact wpAny_bind (wpAny_standAt (wpAny_pure hQ))
  clear F9 N9
  have F10 : Fr g L1 h10 _ := ⟨F8.ns.at' fun o e => hk10 _ _ e, fun b o e => hk10 b o (F8.keep b o e), F8.above⟩
  have N10 : News g L1 h10 _ := fun p hp => ⟨hk10 _ _ (N8 p hp).1, (N8 p hp).2⟩
  clear F8 N8
  refine wpAny_call (method_call (N10 _ (.head _)).1 ?_)
  have N11 : News g L1 h10 ((P, pmObj dd) :: (dd, W.emptyDict) :: (E0, o0) :: news) := fun p hp => N10 p (by
    rcases List.mem_cons.mp hp with rfl | hp
    · k_mem
    rcases List.mem_cons.mp hp with rfl | hp
    · k_mem
    rcases List.mem_cons.mp hp with rfl | hp
    · k_mem
    exact .tail _ (.tail _ (.tail _ (.tail _ (.tail _ (.tail _ (.tail _ (.tail _ (.tail _ hp)))))))))
  clear N10
  refine cdi_call (outer := _ :: outer) P dd (by k_asm) F10 X1 N11 T1 rfl (by ktr_room) (by ktr_units) (fun h12 tk12 F12 N12 => ?_)
  clear F10 N11
  (try dsimp only)
  k_steps
  refine go_ ?_
  refine for_view (knd := PySem.strKind PG w) (h₀ := g) (L := L1) (d := E0) (o := o0) rfl ho6 ?_ ?hs ?hE
  case hs => intro _; with_unfolding_all rfl
  case hE => with_unfolding_all passes_own
  k_steps
  rename Fr g _ _ _ => F13
  rename News g _ _ _ => N13
  refine go_ ⟨_, _, _, rfl, F13, N13, .head _, .tail _ (.tail _ (.tail _ (.head _))), fun h14 F14 N14 => ?_⟩
  clear F13 N13
  (try dsimp only)
  k_steps
  refine leaveP_ F14 (news' := _) N14 (fun kF kN => ?_)
  exact h _ _ kF (by rw [List.append_nil] at kN; exact fun p hp => kN p (by
    rcases List.mem_cons.mp hp with rfl | hp
    · k_mem
    rcases List.mem_cons.mp hp with rfl | hp
    · k_mem
    exact .tail _ (.tail _ (.tail _ (.tail _ hp)))))
end
end
section
section
variable {w : World} {mean : ExcName → Option Value} {mg mb : Str → Option Value} {dp un : Nat} {gd : Option (List Code)} {cn : Str} {cs : Scope} {a : Addr} {ccd : Value} {cl : List (Str × Addr)} {outer : List Env} {A₀ : Around} {base h₀ : Heap} {L : Addr} {m : Str → Option Value} {s : Shared} {Q E : Value → Shared → Prop} {news : List (Addr × Obj)}
/-- Parameters(None) -/
theorem par_call (B : Below A₀ base outer h₀) (F : Fr h₀ L s.heap m) (X : (hd.heap_39 w.params).In h₀) (N : News h₀ L s.heap news) (T : TopC mean mg mb h₀) (hk : cs.kind = .function) (hd : dp + 32 < recursionLimit) (hu : un + 250 < cLine)
   (h : ∀ P dd h' tk', Fr h₀ L h' m → News h₀ L h' ((P, pmObj dd) :: (dd, W.emptyDict) :: news) → (∀ p ∈ news, p.1 < dd) → dd < P → Q (.ref P) { s with heap := h', toks := tk' }) :
   wpAny (model PG w) (ktrTop dp un gd cn cs L a ccd cl outer) (call (.ref 279) [.none] []) Q E s := by
  have X' := X.keeps F.keep
  obtain ⟨hh, g, d, t, os⟩ := s
  have N1 := (News.pushKeep N W.emptyDict)
  have F1 := F.push W.emptyDict
  have N2 := News.push F N W.emptyDict rfl
  have N3 := News.push F1 N2 (pmObj hh.objs.size) rfl
  have F3 := F1.push (pmObj hh.objs.size)
  rw [Heap.size_push] at N3
  refine wpAny_call (make_dict (C := 279) (init := .ref 240) (dmakes_of (K := Mine.hd.heap_39 w.params) X' (by kernel_rfl)) ?isT (looks_findIn X' (by k_is)) (looks_specialIn X' (by k_is)) (looks_instIn X' (by k_is)) (fun self => bind_fn X' self (by k_is)) ?_)
  case isT =>
    intro A' Q' E' s' k q
    exact ks_wpAny_isType_cls (k _ _ (X' _ _ (by k_is))) rfl q
  rw [under_tc]
  refine pmi_call (s := ⟨(hh.push W.emptyDict).push (pmObj hh.objs.size), g, d, t, os⟩) (hh.objs.size + 1) hh.objs.size B F3 X N3 T hk (by omega) (by omega) (fun h' tk' F' N' => ?_)
  exact ⟨rfl, h _ _ _ _ F' N' (fun p hp => Heap.lt_size (N p hp).1) (Nat.lt_succ_self _)⟩
end
end
section
/-- a call of a def that asks for super() -/
theorem newAt {prog : Program} {w : World} {A₀ : Around} {s : Shared} {K : Frag} {L : Addr} {h₀ base : Heap} {m mg mb : Str → Option Value} {news : List (Addr × Obj)} {p : Program} {loose : List Str} {mean : ExcName → Option Value} {dp un : Nat} {gd : Option (List Code)} {R : Result → Shared → Prop}
    {env : Env} {outer : List Env} {name qual : Str} {params : Arguments} {body : List Stmt} {scope : Scope} {dV kV doc pm cdv ct oc : Value} {an od : Option Addr} {osl : Array (Option Value)} {f cc : Addr} {args : Args} {binds : List (Str × Value)}
    (B : Below A₀ base outer h₀) (F : Fr h₀ L s.heap m) (X₀ : K.In h₀) (N : News h₀ L s.heap news) (T : Top p loose mean mg mb h₀) (hf : env.frame = some L) (hke : env.scope.kind = .function)
    (ho : K.lookup f = some ⟨oc, od, .func (ksFn name qual params body scope dV kV doc pm an cdv ct cc), osl⟩) (hcd : codeIn K cdv qual = true) (hroom : dp < recursionLimit)
    (hbind : BindsTo s (ksFn name qual params body scope dV kV doc pm an cdv ct cc) args binds) (hloc : ∀ y ∈ binds, scope.names.lookup y.1 = some .local)
    (hcell : ∀ x ∈ scope.names, x.2 ≠ .cell) (hco : scope.isCoroutine = false) (hgen : scope.isGenerator = false) (hk : scope.kind = .function)
    (h : ∀ g L' h₁ tk, (∀ p ∈ news, p.1 < L') → Fr h₀ L g m → Fr g L' h₁ (fun y => binds.reverse.lookup y) → News g L' h₁ news → Below { handled := none, depth := dp, frames := some (env :: outer), guards := gd, units := un } base (env :: outer) g → K.In g → Top p loose mean mg mb g →
      _root_.PySem.wpAt (model prog w) (Around.deeper { handled := none, depth := dp, frames := some (env :: outer), guards := gd, units := un } (ksEnv qual scope L' f cdv cc)) (.func body (ksEnv qual scope L' f cdv cc)) (execs body (ksEnv qual scope L' f cdv cc))
        (fun fl s' => LeaveP h₀ L m [] g (fun v s' => R (.ok (.ret v)) s') (match fl with | .ret v => v | _ => .none) s') (fun _ _ => False) { s with heap := h₁, toks := tk }) :
    codeAny (model prog w) { handled := none, depth := dp, frames := some (env :: outer), guards := gd, units := un } (.call (.ref f) args) R s := by
  refine ks_code_super (A := { handled := none, depth := dp, frames := some (env :: outer), guards := gd, units := un }) B F X₀ N T rfl hf hke ho hcd hroom hbind hloc (fun g L' h₁ FG FL NG BG XG TG l1 => ?_) hcell hco hgen hk
  exact ks_wpAt_mono (h g L' h₁ _ l1 FG FL NG BG XG TG) (fun fl s' hl => by
    obtain ⟨L2, m2, news2, F2, N2, k⟩ := hl
    exact ⟨L2, m2, news2, F2, N2, fun F3 N3 => k F3 (by rw [List.append_nil]; exact N3)⟩) fun _ _ y => y.elim
/-- a call of a def, with keywords or without -/
theorem defAt {prog : Program} {w : World} {A₀ : Around} {s : Shared} {K : Frag} {L : Addr} {h₀ base : Heap} {m mg mb : Str → Option Value} {news : List (Addr × Obj)} {p : Program} {loose : List Str} {mean : ExcName → Option Value} {dp un : Nat} {gd : Option (List Code)} {R : Result → Shared → Prop}
    {env : Env} {outer : List Env} {name qual : Str} {params : Arguments} {body : List Stmt} {scope : Scope} {dV kV doc pm cdv ct oc : Value} {an od : Option Addr} {osl : Array (Option Value)} {f : Addr} {args : Args} {binds : List (Str × Value)}
    (B : Below A₀ base outer h₀) (F : Fr h₀ L s.heap m) (X₀ : K.In h₀) (N : News h₀ L s.heap news) (T : Top p loose mean mg mb h₀) (hf : env.frame = some L) (hke : env.scope.kind = .function)
    (ho : K.lookup f = some ⟨oc, od, .func (fnOf name qual params body scope dV kV doc pm an cdv ct), osl⟩) (hcd : codeIn K cdv qual = true) (hroom : dp < recursionLimit)
    (hbind : BindsTo s (fnOf name qual params body scope dV kV doc pm an cdv ct) args binds) (hloc : ∀ y ∈ binds, scope.names.lookup y.1 = some .local)
    (hcell : ∀ x ∈ scope.names, x.2 ≠ .cell) (hco : scope.isCoroutine = false) (hgen : scope.isGenerator = false) (hk : scope.kind = .function)
    (h : ∀ g L' h₁ tk, Fr h₀ L g m → Fr g L' h₁ (fun y => binds.reverse.lookup y) → News g L' h₁ news → Below { handled := none, depth := dp, frames := some (env :: outer), guards := gd, units := un } base (env :: outer) g → K.In g → Top p loose mean mg mb g →
      wpAny (model prog w) (Around.deeper { handled := none, depth := dp, frames := some (env :: outer), guards := gd, units := un } (envOf qual scope L' f cdv)) (execs body (envOf qual scope L' f cdv))
        (fun fl s' => LeaveP h₀ L m [] g (fun v s' => R (.ok (.ret v)) s') (match fl with | .ret v => v | _ => .none) s') (fun _ _ => False) { s with heap := h₁, toks := tk }) :
    codeAny (model prog w) { handled := none, depth := dp, frames := some (env :: outer), guards := gd, units := un } (.call (.ref f) args) R s := by
  refine code_def (A := { handled := none, depth := dp, frames := some (env :: outer), guards := gd, units := un }) B F X₀ N T rfl hf hke ho hcd hroom hbind hloc (fun g L' h₁ FG FL NG BG XG TG => ?_) hco hgen hk hcell
  exact wpAny_mono (h g L' h₁ _ FG FL NG BG XG TG) (fun fl s' hl => by
    obtain ⟨L2, m2, news2, F2, N2, k⟩ := hl
    exact ⟨L2, m2, news2, F2, N2, fun F3 N3 => k F3 (by rw [List.append_nil]; exact N3)⟩) fun _ _ y => y.elim
end
section
section
variable {prog : Program} {w : World} {A : Around} {K : Frag} {C : Addr} {E : Value → Shared → Prop} {h : Heap} {g : Array GenState} {d : Drawn} {t : Nat} {os : OsState}
theorem sn_kind : builtinKind "str.__new__" = some .builtinFn := by decide +kernel
theorem sn_split : splitId "str.__new__" = some ("str", "__new__") := by decide +kernel
theorem sn_quiet : ("str.__new__" : String).startsWith "lifetime." = false := by decide +kernel
theorem sn_sig : Manifest.signature? "str.__new__" = some { machinery := .keywords, full := "str", short := "str", receiver := .cls, params := [{ name := "object", kind := .posOrKw, required := false }, { name := "encoding", kind := .posOrKw, required := false }, { name := "errors", kind := .posOrKw, required := false }] } := by kernel_rfl
theorem sn_entry : entryFor table "str.__new__" = some Builtin.«str.__new__» := entryFor_of_fast (by kernel_rfl)
theorem sn_args (a b : Value) : Bind.checkArgs "str.__new__" { machinery := .keywords, full := "str", short := "str", receiver := .cls, params := [{ name := "object", kind := .posOrKw, required := false }, { name := "encoding", kind := .posOrKw, required := false }, { name := "errors", kind := .posOrKw, required := false }] } ⟨[a, b], []⟩ = pure () := by kernel_rfl
theorem sn_made : Bind.madeBy (.type "str") = pure (some "str.__new__") := by kernel_rfl
theorem sn_best : Builtin.Slots.bestBase [.type "str"] = pure (.type "str") := by kernel_rfl
structure SMakes (M : Model) (h : Heap) (C : Addr) : Prop where
  obj : ∃ oc od cd sl, h.get? C = some ⟨oc, od, .cls cd, sl⟩ ∧ cd.hasDel = false
  made : Looks M h (Bind.madeBy (.ref C)) none
  base : Looks M h (Bind.staticBase (.ref C)) (.type "str")
  ty : Looks M h (isType (.ref C)) true
  top : Looks M h (isSubtype (.ref C) (.type "str")) true
theorem smakes_of {M : Model} {oc : Value} {od : Option Addr} {cd : ClassData} {sl : Array (Option Value)} {l : List Value} (X : K.In h) (ho : K.lookup C = some ⟨oc, od, .cls cd, sl⟩) (h4 : (sl.toList[4]?).join = some .none) (hb : cd.bases = [.type "str"]) (hm : cd.mro = .ref C :: .type "str" :: l) (hdel : cd.hasDel = false) (hs : mroIn K C (.type "str") = some true) : SMakes M h C := by
  have hc : clsIn K C = some cd := by unfold clsIn; rw [ho]
  have hmr : Looks M h (mroOf (.ref C)) cd.mro := (looks_clsIn X hc).andThen .now
  have made : Looks M h (Bind.madeBy (.ref C)) none := by
    intro A Q E s k q
    unfold Bind.madeBy
    refine wpAny_bind (hmr A _ E s k ?_)
    rw [hm, List.forIn_cons]
    refine wpAny_bind (wpAny_bind (wpAny_bind (wpAny_bind (wpAny_loadPart (k _ _ (X _ _ ho)) (wpAny_pure ?_)))))
    dsimp only
    rw [← Array.getElem?_toList, h4]
    exact wpAny_pure (wpAny_pure (wpAny_pure q))
  refine ⟨⟨oc, od, cd, sl, X _ _ ho, hdel⟩, made, ?_, ?_, looks_mroIn X hs⟩
  · intro A Q E s k q
    unfold Bind.staticBase
    refine wpAny_bind (hmr A _ E s k ?_)
    rw [hm, List.forIn_cons]
    refine wpAny_bind (wpAny_bind (wpAny_bind (made A _ E s k ?_)))
    rw [if_neg (by decide)]
    dsimp only
    refine wpAny_bind ((looks_clsIn X hc) A _ E s k ?_)
    rw [hb, sn_best]
    refine wpAny_bind (wpAny_pure (wpAny_pure ?_))
    dsimp only
    rw [List.forIn_cons]
    dsimp only
    refine wpAny_bind (wpAny_bind (wpAny_of_eq sn_made ?_))
    rw [if_pos (by rfl)]
    exact wpAny_pure (wpAny_pure (wpAny_pure q))
  · intro A Q E s k q
    exact ks_wpAny_isType_cls (k _ _ (X _ _ ho)) rfl q
theorem str_new {x : Str} {tx : Tok} {Q : Value → Shared → Prop} (Y : SMakes (model prog w) h C) (hx : x.length ≤ 1000)
    (hq : Q (.ref (h.objs.size + 1)) ⟨(h.push W.emptyDict).push { cls := .ref C, dict := some h.objs.size, data := .prim (.str x t), slots := #[] }, g, d, t + 1, os⟩) :
    wpAny (model prog w) A (call (.builtin "str.__new__") [.ref C, .str x tx]) Q E ⟨h, g, d, t, os⟩ := by
  obtain ⟨⟨oc, od, cd, sl, hC, hdel⟩, made, base, ty, top⟩ := Y
  refine wpAny_call (codeAny_call_builtin_code (Code.quiet_builtin _ sn_quiet) ?_)
  simp only [checkBuiltinCall, sn_kind, sn_split, sn_sig]
  rw [show Bind.checkArgs "str.__new__" { machinery := .keywords, full := "str", short := "str", receiver := .cls, params := [{ name := "object", kind := .posOrKw, required := false }, { name := "encoding", kind := .posOrKw, required := false }, { name := "errors", kind := .posOrKw, required := false }] } ⟨.ref C :: [.str x tx], []⟩ = pure () from sn_args _ _]
  have mb := sn_made
  repeat (first | simp only [bne_self_eq_false, Bool.false_eq_true, if_false] | (with_reducible refine wpAny_of_eq sn_made ?_) | lk)
  refine codeAny_builtin sn_entry ?_
  unfold Builtin.«str.__new__»
  repeat lk
  rw [if_neg (by rw [sizeLine_eq]; omega)]
  refine wpAny_bind (wpAny_fresh (wpAny_pure (wpAny_bind ?_)))
  have hp : (Data.prim (.str x t)).pastItsLine = none := by
    unfold Data.pastItsLine
    simp [sizeLine_eq]
    omega
  unfold newObj
  dsimp only
  rw [hp]
  unfold newObjAsIs classHasDel
  refine wpAny_bind (wpAny_alloc (wpAny_bind (wpAny_bind (wpAny_load (Heap.get?_push_of_some _ (Heap.get?_push_of_some _ hC)) (wpAny_pure ?_)))))
  rw [hdel]
  refine wpAny_pure (wpAny_pure ?_)
  show Q _ _
  rw [Heap.size_push]
  exact hq
end
section
variable {prog : Program} {w : World} {A : Around} {E : Value → Shared → Prop} {s : Shared} {h₀ : Heap} {L C : Addr} {m : Str → Option Value} {news : List (Addr × Obj)}
theorem str_newN {x : Str} {tx : Tok} {Q : Value → Shared → Prop} (F : Fr h₀ L s.heap m) (N : News h₀ L s.heap news) (Y : SMakes (model prog w) s.heap C) (hx : x.length ≤ 1000)
    (h : ∀ O dd tt h' tk', Fr h₀ L h' m → News h₀ L h' ((O, ({ cls := .ref C, dict := some dd, data := .prim (.str x tt), slots := #[] } : Obj)) :: (dd, W.emptyDict) :: news) → (∀ p ∈ news, p.1 < dd) → dd < O → Q (.ref O) { s with heap := h', toks := tk' }) :
    wpAny (model prog w) A (call (.builtin "str.__new__") [.ref C, .str x tx]) Q E s := by
  obtain ⟨hh, g, d, t, os⟩ := s
  refine str_new Y hx ?_
  have N1 := News.push (F.push W.emptyDict) (News.push F N W.emptyDict rfl) ({ cls := .ref C, dict := some hh.objs.size, data := .prim (.str x t), slots := #[] } : Obj) rfl
  rw [Heap.size_push] at N1
  exact h _ _ _ _ _ ((F.push W.emptyDict).push _) N1 (fun p hp => Heap.lt_size (N p hp).1) (Nat.lt_succ_self _)
end
end
section
theorem refuse_str (self : Value) : refuseLoop self "__setattr__" [.type "str", .type "object"] = pure () := by kernel_rfl
section
variable {prog : Program} {w : World} {A : Around} {E : Value → Shared → Prop} {s : Shared} {K : Frag} {C x L : Addr} {h₀ : Heap} {m : Str → Option Value} {news : List (Addr × Obj)} {R : Result → Shared → Prop}
theorem osaS_open {ox : Obj} {od : Option Obj} {name : Str} {tk : Tok} {v : Value} {r : Option Value} {cd : ClassData} (X : K.In s.heap) (I : InstAt s.heap x ox C od) (hc : clsIn K C = some cd) (hmr : cd.mro = [.ref C, .type "str", .type "object"]) (ht : takerIn K C name = some r)
    (h : ∀ b, wpAny (model prog w) A.in1 (match r with | some a => Builtin.ObjectAttr.setByDescriptor a (.ref x) v | none => Builtin.ObjectAttr.storeInOwnDict (.ref x) (.ref C) (.str name tk) name v b)
      (fun fin s' => match fin with | .done f => R (.ok f) s' | .again c' => c'.quiet = true ∧ codeAny (model prog w) A c' R s') (fun e s' => R (.error e) s') s) :
    codeAny (model prog w) A (.call (.builtin "object.__setattr__") ⟨[.ref x, .str name tk, v], []⟩) R s := by
  have SF := PySem.F.store_object
  have sub : Looks (model prog w) s.heap (isInstance (.ref x) (.type "object")) true := I.type.andThen (looks_mroIn X (by unfold mroIn; rw [hc, Option.bind_some, hmr, if_neg (by intro z; cases z)]; simp))
  refine codeAny_call_builtin SF.slot.plain SF.entry (@check_slot (model prog w) _ _ s "object.__setattr__" "object" "__setattr__" (.ref x) [.str name tk, v] [] _ SF.kind SF.split sub (SF.args (.ref x) (.str name tk) v) ?_)
  obtain ⟨attr, ha, hr⟩ := Option.bind_eq_some_iff.mp ht
  have hm : Looks (model prog w) s.heap (mroOf (.ref C)) cd.mro := (looks_clsIn X hc).andThen .now
  have L3 : Looks (model prog w) s.heap (Builtin.ObjectAttr.storeTaker? attr) r := by
    cases attr with
    | none => cases hr; exact .now
    | some a =>
      obtain ⟨b, hb, rfl⟩ := Option.map_eq_some_iff.mp hr
      refine (looks_takesIn X hb).andThen ?_
      cases b <;> exact .now
  rw [osa_eq, refuse_eq]
  refine wpAny_bind (wpAny_bind (I.type.here (wpAny_bind (hm.here ?_))))
  rw [hmr, refuseLoop_ref, refuse_str]
  refine wpAny_pure (wpAny_bind (I.type.here (wpAny_bind ((looks_findIn X ha).here (wpAny_bind (L3.here ?_))))))
  exact h _
theorem osaS_descr {ox : Obj} {od : Option Obj} {name : Str} {tk : Tok} {v : Value} {p : Addr} {T i : String} {cd : ClassData} (S : Slot T "__set__" i) (X : K.In s.heap) (I : InstAt s.heap x ox C od) (hc : clsIn K C = some cd) (hmr : cd.mro = [.ref C, .type "str", .type "object"]) (ht : takerIn K C name = some (some (.ref p)))
    (hT : typeIn K (.ref p) = some (.type T)) (h : codeAny (model prog w) A.in1 (.call (.builtin i) ⟨[.ref p, .ref x, v], []⟩) (fun r s' => match r with | .ok (.ret _) => R (.ok (.ret .none)) s' | .ok _ => False | .error e => R (.error e) s') s) :
    codeAny (model prog w) A (.call (.builtin "object.__setattr__") ⟨[.ref x, .str name tk, v], []⟩) R s := by
  refine osaS_open X I hc hmr ht fun _ => ?_
  refine wpAny_bind (wpAny_rule (wpAny_bind (wpAny_holding (wpAny_bind (wpAny_bind ((looks_typeIn X hT).here ((Looks.of_pure S.lookup).here (wpAny_holding ?_))))))))
  rw [S.bind]
  refine wpAny_bind (wpAny_pure (wpAny_bind (wpAny_call (codeAny_mono h fun r s' z => ?_))))
  rcases r with e | (v | _ | _ | _) <;> first | exact z | exact wpAny_pure (wpAny_pure z)
/-- x.name = v, where name is a slot of a class under str -/
theorem vt_set {ox ox' : Obj} {od : Option Obj} {name : Str} {v : Value} {p i : Addr} {cd : ClassData} {pre post : List (Addr × Obj)} {Q : Unit → Shared → Prop} (F : Fr h₀ L s.heap m) (N : News h₀ L s.heap (pre ++ (x, ox) :: post)) (X₀ : K.In h₀) (I : InstAt s.heap x ox C od)
    (hs : findIn K (.ref C) "__setattr__" = some (some (.builtin "object.__setattr__"))) (hc : clsIn K C = some cd) (hmr : cd.mro = [.ref C, .type "str", .type "object"]) (ht : takerIn K C name = some (some (.ref p))) (hT : typeIn K (.ref p) = some (.type "member_descriptor"))
    (hp : slotIn K p C = some i) (hi : i < 1000) (h1 : ∀ q ∈ pre, q.1 ≠ x) (h2 : ∀ q ∈ post, q.1 ≠ x)
    (e : { ox with slots := (ox.slots ++ Array.replicate (i + 1 - ox.slots.size) none).setIfInBounds i (some v) } = ox') (hf : ox'.isFreed = false)
    (h : ∀ h', Fr h₀ L h' m → News h₀ L h' (pre ++ (x, ox') :: post) → Q () { s with heap := h', toks := s.toks + 1 }) :
    wpAny (model prog w) A (setAttr (.ref x) name v) Q E s := by
  have X : K.In s.heap := X₀.keeps F.keep
  refine set_plain X I hs (osaS_descr (s := { s with toks := s.toks + 1 }) (i := "member_descriptor.__set__") KF.slot_mset X I hc hmr ht hT ?_)
  exact slot_set (s := { s with toks := s.toks + 1 }) F N X I hp hi h1 h2 e hf fun h' F' N' => h h' F' N'
end
end
section
theorem off_Nwx : True := by
  w_top off
  exact trivial
local macro_rules | `(tactic| walk_at "no step") => `(tactic| fail)
local macro_rules | `(tactic| walk_at "p_enter") => `(tactic| (k_dflt (refine' pureCall _ ?k1 ?k2 ?k3 ?k4 ?k5 ?kF ?kK ?k6 ?k7 ?k8 ?k9 ?kB ?c5 ?c2 ?c3 ?c4 ?cp ?_; (case cp => first | assumption | ((try dsimp only); omega)); (case kF => exact rfl); (case kK => first | assumption | exact rfl); (case k1 => k_asm); (case k2 => k_asm); (case k3 => k_asm); (case k4 => k_asm); (case k5 => k_asm); (case k6 => k_is); (case k7 => k_is); (case k8 => ktr_room); (case k9 => first | exact BindsTo.of_eq rfl | exact binds_K (by k_in) rfl (by k_is) rfl rfl rfl); (case c5 => decide); (case kB => exact locs rfl); (case c2 => exact rfl); (case c3 => exact rfl); (case c4 => exact rfl); k_whole; intro g' L' h' tk' htk' F' N' B' X' T' hin'; (try dsimp only); (try k_fold))))
local macro_rules | `(tactic| walk_at "h_enter") => `(tactic| (k_dflt ((case cp => first | assumption | ((try dsimp only); omega)); (case k1 => k_asm); (case k2 => k_asm); (case k3 => k_asm); (case kF => exact rfl); (case kK => first | assumption | exact rfl); (case k5 => k_asm); (case k6 => k_is); (case k7 => k_is); (case k8 => ktr_room); (case k9 => first | exact BindsTo.of_eq rfl | exact binds_K (by k_in) rfl (by k_is) rfl rfl rfl); (case c5 => decide); (case kB => exact locs rfl); (case c2 => exact rfl); (case c3 => exact rfl); (case c4 => exact rfl); k_whole; intro g' L' h' tk' htk' F' N' B' X' T' hin'; (try dsimp only); (try k_fold))))
local macro_rules | `(tactic| walk_at "execs cons") => `(tactic| (k_here; (with_reducible refine wpAny_execs_cons ?_); try dsimp only))
local macro_rules | `(tactic| walk_at "execs cons") => `(tactic| (k_here; (with_reducible refine execs_consT ?hp ?_); (case hp => ((try dsimp only); omega)); try dsimp only))
local macro_rules | `(tactic| walk_at "TokOk") => `(tactic| (intro hpT; (try dsimp only at hpT); (try dsimp only)))
local macro_rules | `(tactic| walk_at "call builtin:str.replace") => `(tactic| ((with_reducible show wpAny _ _ (call (Value.builtin "str.replace") [Value.str _ _, Value.str _ _, Value.str _ _]) _ _ _); (refine replN ?k0 ?k1 ?k2 ?k3 ?k4 ?k5 ?k6 ?_; (case k0 => (try dsimp only); omega); (case k1 => show @Ne Nat _ _; omega); (case k2 => show @Ne Nat _ _; omega); (case k3 => show @Ne Nat _ _; omega); (case k4 => decide); (case k5 => omega); (case k6 => decide)); intro _ _ _ _ _ _; (try dsimp only)))
local macro_rules | `(tactic| walk_at "exec For Name Subscript cons nil") => `(tactic| (k_here; refine stop_ ?_))
local macro_rules | `(tactic| walk_at "exec For Name Call cons nil") => `(tactic| (k_here; refine stop_ ?_))
local macro_rules | `(tactic| walk_at "exec While Compare cons nil") => `(tactic| (k_here; refine stop_ ?_))
local macro_rules | `(tactic| walk_at "exec While BoolOp cons nil") => `(tactic| (k_here; refine stop_ ?_))
local macro_rules | `(tactic| walk_at "call ref") => `(tactic| (k_here; refine stop_ ?_))
local macro_rules | `(tactic| walk_at "call ref cons nil") => `(tactic| (k_here; refine stop_ ?_))
local macro_rules | `(tactic| walk_at "call ref nil nil") => `(tactic| (k_here; refine stop_ ?_))
local macro_rules | `(tactic| walk_at "pyIter ref") => `(tactic| (k_here; refine stop_ ?_))
local macro_rules | `(tactic| walk_at "subscriptTail Name Call ref int") => `(tactic| (k_here; refine stop_ ?_))
local macro_rules | `(tactic| walk_at "InvPostN") => `(tactic| (refine stop_ ?_))
local macro_rules | `(tactic| walk_at "InvPostN next") => `(tactic| (refine stop_ ?_))
local macro_rules | `(tactic| walk_at "InvPostN cont") => `(tactic| (refine stop_ ?_))
local macro_rules | `(tactic| walk_at "InvEndN") => `(tactic| (refine stop_ ?_))
local macro_rules | `(tactic| walk_at "CompSrc") => `(tactic| (refine stop_ ?_))
local macro_rules | `(tactic| walk_at "CompSrc ref") => `(tactic| (refine stop_ ?_))
local macro_rules | `(tactic| walk_at "setAttr ref") => `(tactic| (k_here; refine stop_ ?_))
local macro_rules | `(tactic| walk_at "wpAt") => `(tactic| (dsimp only; ks_step "execs cons"; refine ks_wpAt_execs_cons ?_))
local macro_rules | `(tactic| walk_at "wpAt") => `(tactic| (k_dflt (refine ks_wpAt_Assign_Name (value := Expr.Call (Expr.Attribute (Expr.Call _ [] [] _) _ _) _ [] _) ?_); k_dflt (refine ks_wpAt_MethodCall ?_); refine stop_ ?_))
local macro_rules | `(tactic| walk_at "n_enter") => `(tactic| (k_dflt (refine' newAt ?k1 ?k2 ?k3 ?k4 ?k5 ?kF ?kK ?k6 ?k7 ?k8 ?k9 ?kB ?c5 ?c2 ?c3 ?c4 ?_; (case kF => exact rfl); (case kK => first | assumption | exact rfl); (case k1 => k_asm); (case k2 => k_asm); (case k3 => k_asm); (case k4 => k_asm); (case k5 => k_asm); (case k6 => k_is); (case k7 => k_is); (case k8 => ktr_room); (case k9 => first | exact BindsTo.of_eq rfl | exact binds_K (by k_in) rfl (by k_is) rfl rfl rfl); (case kB => exact locs rfl); (case c5 => decide); (case c2 => exact rfl); (case c3 => exact rfl); (case c4 => exact rfl); k_whole; intro g' L' h' tk' l1 FG' F' N' B' X' T'; (try dsimp only); (try k_fold))))
local macro_rules | `(tactic| walk_at "e_enter") => `(tactic| (k_dflt (refine' defAt ?k1 ?k2 ?k3 ?k4 ?k5 ?kF ?kK ?k6 ?k7 ?k8 ?k9 ?kB ?c5 ?c2 ?c3 ?c4 ?_; (case kF => exact rfl); (case kK => first | assumption | exact rfl); (case k1 => k_asm); (case k2 => k_asm); (case k3 => k_asm); (case k4 => k_asm); (case k5 => k_asm); (case k6 => k_is); (case k7 => k_is); (case k8 => ktr_room); (case k9 => first | exact BindsTo.of_eq rfl | exact binds_K (by k_in) rfl (by k_is) rfl rfl rfl); (case kB => exact locs rfl); (case c5 => decide); (case c2 => exact rfl); (case c3 => exact rfl); (case c4 => exact rfl); k_whole; intro g' L' h' tk' FG' F' N' B' X' T'; (try dsimp only); (try k_fold))))
section
variable {w : World} {mean : ExcName → Option Value} {mg mb : Str → Option Value} {dp un : Nat} {gd : Option (List Code)} {cn : Str} {cs : Scope} {a : Addr} {ccd : Value} {cl : List (Str × Addr)} {outer : List Env} {A₀ : Around} {base h₀ : Heap} {L : Addr} {m : Str → Option Value} {s : Shared} {R : Result → Shared → Prop} {news : List (Addr × Obj)}
/-- to_unicode(value, encoding=..) of a str -/
theorem toUniK_call (x : Str) (t : Tok) (v : Value) (B : Below A₀ base outer h₀) (F : Fr h₀ L s.heap m) (X : (hd.heap_39 w.params).In h₀) (N : News h₀ L s.heap news) (T : TopC mean mg mb h₀) (hk : cs.kind = .function) (hd : dp + 10 < recursionLimit) (hu : un + 80 < cLine)
   (h : ∀ h' tk', Fr h₀ L h' m → News h₀ L h' news → R (.ok (.ret (.str x t))) { s with heap := h', toks := tk' }) :
   codeAny (model PG w) (ktrTop dp un gd cn cs L a ccd cl outer) (.call (.ref 47) ⟨[.str x t], [(Str.ofString "encoding", v)]⟩) R s := by
  walk_at "e_enter"
  k_steps
  refine leaveP_ (by k_asm) (by k_asm) (fun kF kN => ?_)
  exact h _ _ kF (by rw [List.append_nil] at kN; exact kN)
/-- vText.__new__ -/
theorem vnew_call (x : Str) (t : Tok) (B : Below A₀ base outer h₀) (F : Fr h₀ L s.heap m) (X : (hd.heap_39 w.params).In h₀) (N : News h₀ L s.heap news) (T : TopC mean mg mb h₀) (hk : cs.kind = .function) (hd : dp + 36 < recursionLimit) (hu : un + 260 < cLine) (hx : x.length ≤ 200)
   (h : ∀ O dd tt sl h' tk', Fr h₀ L h' m → News h₀ L h' ((O, vtObj dd x tt sl) :: (dd, W.emptyDict) :: news) → (∀ p ∈ news, p.1 ≠ O ∧ p.1 ≠ dd) → R (.ok (.ret (.ref O))) { s with heap := h', toks := tk' }) :
   codeAny (model PG w) (ktrTop dp un gd cn cs L a ccd cl outer) (.call (.ref 306) ⟨[.ref 335, .str x t], []⟩) R s := by
  walk_at "n_enter"
  rename_i g L1 h1 tk1 l1 FG F1 N1 B1 X1 T1
  k_steps
  refine go_ ?_
  refine wpAny_call (toUniK_call (outer := _ :: outer) x t (.str (Str.ofString "utf-8") 292) (by k_asm) F1 (by k_asm) N1 (by k_asm) rfl (by ktr_room) (by ktr_units) (fun h2 tk2 F2 N2 => ?_))
  clear F1 N1
  (try dsimp only)
  k_steps
  rename Fr g _ _ _ => F3
  rename News g _ _ _ => N3
  refine go_ ?_
  refine node_cls F3 (by k_asm) N3 (by k_asm) (by rfl) (by k_is) (by rfl) (by rfl) (by k_is) (by k_is) (by rfl) (by first | rfl | decide +kernel) (by k_is) (by k_is) (by k_is) (by k_is) (by decide) (by rfl) (by rfl) (by rfl) (by rfl) (by decide +kernel) (by first | boot_by_name | rfl | kernel_rfl) ?_
  intro so h4 F4 N4 l4
  clear F3 N3
  (try dsimp only)
  refine sup_plain (K := Mine.hd.heap_39 w.params) (id := "str.__new__") F4 X1 N4 (.head _) (by k_is) ?ks (by show builtinType _ = _; rw [builtinType_eq_fast]; kernel_rfl) ?lk ?ho (by decide) ?_
  case ks => ks_is
  case lk => rw [typeLookup_type, builtinLookup_eq_fast]; kernel_rfl
  case ho => kernel_rfl
  k_steps
  refine str_newN (C := 335) F4 N4 (smakes_of (X1.keeps F4.keep) (by k_is) rfl rfl rfl rfl (by k_is)) (by omega) (fun O dO tO h5 tk5 F5 N5 l5 l6 => ?_)
  clear F4 N4
  (try dsimp only)
  k_steps
  rename Fr g _ _ _ => F6
  rename News g _ _ _ => N6
  refine go_ ?_
  refine vt_set (pre := []) (C := 335) (ox' := vtObj dO x tO _) F6 N6 X1 (instVt N6 (.head _) (.tail _ (.head _))) (by k_is) (by k_is) rfl (by k_is) (by k_is) (by k_is) (by decide) (fun q hq => nomatch hq) (fun q hq => ?_) rfl rfl (fun h7 F7 N7 => ?_)
  · rcases List.mem_cons.mp hq with rfl | hq
    · exact Nat.ne_of_lt l6
    · exact Nat.ne_of_lt (Nat.lt_trans (l5 q hq) l6)
  clear F6 N6
  (try dsimp only)
  k_steps
  refine go_ ?_
  rename Fr g _ _ _ => F8
  rename News g _ _ _ => N8
  refine par_call (outer := _ :: outer) (by k_asm) F8 (by k_asm) N8 (by k_asm) rfl (by ktr_room) (by ktr_units) (fun P dq h9 tk9 F9 N9 l9 l10 => ?_)
  have lO : O < dq := l9 _ (.head _)
  clear F8 N8
  (try dsimp only)
  k_steps
  rename Fr g _ _ _ => F10
  rename News g _ _ _ => N10
  refine go_ ?_
  refine vt_set (pre := [(P, pmObj dq), (dq, W.emptyDict)]) (C := 335) (ox' := vtObj dO x tO _) F10 N10 X1 (instVt N10 (.tail _ (.tail _ (.head _))) (.tail _ (.tail _ (.tail _ (.head _))))) (by k_is) (by k_is) rfl (by k_is) (by k_is) (by k_is) (by decide) (fun q hq => ?_) (fun q hq => ?_) rfl rfl (fun h11 F11 N11 => ?_)
  · rcases List.mem_cons.mp hq with rfl | hq
    · exact Nat.ne_of_gt (Nat.lt_trans lO l10)
    · rw [List.mem_singleton.mp hq]
      exact Nat.ne_of_gt lO
  · rcases List.mem_cons.mp hq with rfl | hq
    · exact Nat.ne_of_lt l6
    · exact Nat.ne_of_lt (Nat.lt_trans (l5 q hq) l6)
  clear F10 N10
  (try dsimp only)
  k_steps
  refine leaveP_ F11 (news' := _) N11 (fun kF kN => ?_)
  exact h O dO tO _ _ _ kF (by rw [List.append_nil] at kN; exact fun p hp => kN p (by
    rcases List.mem_cons.mp hp with rfl | hp
    · exact .tail _ (.tail _ (.head _))
    rcases List.mem_cons.mp hp with rfl | hp
    · exact .tail _ (.tail _ (.tail _ (.head _)))
    exact .tail _ (.tail _ (.tail _ (.tail _ (.tail _ hp)))))) (fun p hp => ⟨Nat.ne_of_lt (Nat.lt_trans (l5 p (.tail _ hp)) l6), Nat.ne_of_lt (l5 p (.tail _ hp))⟩)
end
end
section
theorem oi_args2 (a b : Value) : argsOk "object.__init__" ⟨[a, b], []⟩ := by unfold argsOk; kernel_rfl
section
variable {prog : Program} {w : World} {A : Around} {K : Frag} {C L : Addr} {E : Value → Shared → Prop} {s : Shared} {h₀ : Heap} {m : Str → Option Value}
/-- a call of a class with a __new__ of its own and no __init__ -/
theorem make_new {oc : Value} {od : Option Addr} {cd : ClassData} {sl : Array (Option Value)} {mc f y : Value} {p : Addr} {rest' : List Value} {Q : Value → Shared → Prop} (F : Fr h₀ L s.heap m) (X₀ : K.In h₀) (ho : K.lookup C = some ⟨oc, od, .cls cd, sl⟩) (e4 : cd.mro.isEmpty = false)
    (hcall : specialIn K (.ref C) "__call__" = some (some (.builtin "type.__call__"))) (htyp : instIn K (.ref C) (.type "type") = some true) (hself : mroIn K C (.ref C) = some true) (htop : mroIn K C (.type "object") = some true) (hi : findIn K (.ref C) "__init__" = some (some (.builtin "object.__init__")))
    (hm : typeIn K (.ref C) = some mc) (hr : readsIn K C mc = true) (e : findCls K (.ref C) mc "__new__" = some (.get (.builtin "staticmethod.__get__") (.ref p) .none (.ref C))) (hp : recIn K p "staticmethod" = some (f :: rest')) (hv : handedIn f = true)
    (hmade : ∀ h, K.In h → Looks (model prog w) h (Bind.madeBy (.ref C)) none)
    (hq : codeAny (model prog w) (A.under (.builtin "type.__call__" ⟨.ref C :: [y], []⟩)) (.call f ⟨.ref C :: [y], []⟩)
      (fun r s' => match r with | .ok (.ret v) => (∃ O ox od, v = .ref O ∧ InstAt s'.heap O ox C od ∧ K.In s'.heap ∧ Q v s') | .ok _ => False | .error e => E e s') { s with toks := s.toks + 1 }) :
    wpAny (model prog w) A (call (.ref C) [y] []) Q E s := by
  have X : K.In s.heap := X₀.keeps F.keep
  have hC := X _ _ ho
  have call := looks_specialIn (M := model prog w) X hcall
  have typ := looks_instIn (M := model prog w) X htyp
  have made := hmade _ X
  have hc : clsIn K C = some cd := by unfold clsIn; rw [ho]
  have hmr : Looks (model prog w) s.heap (mroOf (.ref C)) cd.mro := (looks_clsIn X hc).andThen .now
  obtain ⟨hh, g, d, t, os⟩ := s
  refine wpAny_call (codeAny_of_tree ?_)
  show wpAny _ _ (callAny (.ref C) _) _ _ _
  refine nd_load hC ?_
  show wpAny _ _ (callAny.viaDunder (.ref C) _) _ _ _
  unfold callAny.viaDunder
  refine wpAny_bind (call.at ?_)
  dsimp only
  rw [tc_bind]
  refine wpAny_bind (wpAny_pure (wpAny_bind (wpAny_pure ?_)))
  refine wpAny_pure (a := Fin.again (.call (.builtin "type.__call__") ⟨.ref C :: [y], []⟩)) (And.intro rfl ?_)
  refine codeAny_call_builtin_at (Code.quiet_builtin _ (by decide +kernel)) entry_typeCall (check_slot tc_kind tc_split typ (tc_args _ _ _) ?_)
  unfold Builtin.«type.__call__»
  repeat (first | simp only [e4, Bool.false_eq_true, if_false] | with_reducible refine wpAny_call ?_ | (with_reducible refine cls_sm (K := K) F X₀ hm hr e hp hv ?_) | lk)
  refine codeAny_mono hq fun r s' z => ?_
  rcases r with e | (v | _ | _ | _) <;> first | exact z | exact z.elim | skip
  obtain ⟨O, ox, odx, rfl, I, X1, z⟩ := z
  have t1 := I.type (M := model prog w)
  have s1 := looks_mroIn (M := model prog w) X1 hself
  have s2 := looks_mroIn (M := model prog w) X1 htop
  have i1 := looks_findIn (M := model prog w) X1 hi
  have t2 : Looks (model prog w) s'.heap (isInstance (.ref O) (.type "object")) true := t1.andThen s2
  have m1 := hmade _ X1
  have b1 := oi_bind (.ref O)
  unfold isInstance callSpecial? specialOf
  repeat (first | with_reducible refine wpAny_call ?_ | (with_reducible refine wpAny_of_eq b1 ?_) | lk)
  refine codeAny_call_builtin oi_plain entry_oi (@check_slot (model prog w) _ _ _ "object.__init__" "object" "__init__" (.ref O) [y] [] _ oi_kind oi_split t2 (oi_args2 _ _) ?_)
  unfold Builtin.«object.__init__»
  repeat lk
  exact z
end
end
section
theorem off_Vtx : True := by
  w_top off
  exact trivial
local macro_rules | `(tactic| walk_at "p_enter") => `(tactic| (k_dflt (refine' pureCall _ ?k1 ?k2 ?k3 ?k4 ?k5 ?kF ?kK ?k6 ?k7 ?k8 ?k9 ?kB ?c5 ?c2 ?c3 ?c4 ?cp ?_; (case cp => first | assumption | ((try dsimp only); omega)); (case kF => exact rfl); (case kK => first | assumption | exact rfl); (case k1 => k_asm); (case k2 => k_asm); (case k3 => k_asm); (case k4 => k_asm); (case k5 => k_asm); (case k6 => k_is); (case k7 => k_is); (case k8 => ktr_room); (case k9 => first | exact BindsTo.of_eq rfl | exact binds_K (by k_in) rfl (by k_is) rfl rfl rfl); (case c5 => decide); (case kB => exact locs rfl); (case c2 => exact rfl); (case c3 => exact rfl); (case c4 => exact rfl); k_whole; intro g' L' h' tk' htk' F' N' B' X' T' hin'; (try dsimp only); (try k_fold))))
local macro_rules | `(tactic| walk_at "h_enter") => `(tactic| (k_dflt ((case cp => first | assumption | ((try dsimp only); omega)); (case k1 => k_asm); (case k2 => k_asm); (case k3 => k_asm); (case kF => exact rfl); (case kK => first | assumption | exact rfl); (case k5 => k_asm); (case k6 => k_is); (case k7 => k_is); (case k8 => ktr_room); (case k9 => first | exact BindsTo.of_eq rfl | exact binds_K (by k_in) rfl (by k_is) rfl rfl rfl); (case c5 => decide); (case kB => exact locs rfl); (case c2 => exact rfl); (case c3 => exact rfl); (case c4 => exact rfl); k_whole; intro g' L' h' tk' htk' F' N' B' X' T' hin'; (try dsimp only); (try k_fold))))
local macro_rules | `(tactic| walk_at "execs cons") => `(tactic| (k_here; (with_reducible refine wpAny_execs_cons ?_); try dsimp only))
local macro_rules | `(tactic| walk_at "execs cons") => `(tactic| (k_here; (with_reducible refine execs_consT ?hp ?_); (case hp => ((try dsimp only); omega)); try dsimp only))
local macro_rules | `(tactic| walk_at "TokOk") => `(tactic| (intro hpT; (try dsimp only at hpT); (try dsimp only)))
local macro_rules | `(tactic| walk_at "call builtin:str.replace") => `(tactic| ((with_reducible show wpAny _ _ (call (Value.builtin "str.replace") [Value.str _ _, Value.str _ _, Value.str _ _]) _ _ _); (refine replN ?k0 ?k1 ?k2 ?k3 ?k4 ?k5 ?k6 ?_; (case k0 => (try dsimp only); omega); (case k1 => show @Ne Nat _ _; omega); (case k2 => show @Ne Nat _ _; omega); (case k3 => show @Ne Nat _ _; omega); (case k4 => decide); (case k5 => omega); (case k6 => decide)); intro _ _ _ _ _ _; (try dsimp only)))
local macro_rules | `(tactic| walk_at "exec For Name Subscript cons nil") => `(tactic| (k_here; refine stop_ ?_))
local macro_rules | `(tactic| walk_at "exec For Name Call cons nil") => `(tactic| (k_here; refine stop_ ?_))
local macro_rules | `(tactic| walk_at "exec While Compare cons nil") => `(tactic| (k_here; refine stop_ ?_))
local macro_rules | `(tactic| walk_at "exec While BoolOp cons nil") => `(tactic| (k_here; refine stop_ ?_))
local macro_rules | `(tactic| walk_at "call ref") => `(tactic| (k_here; refine stop_ ?_))
local macro_rules | `(tactic| walk_at "call ref cons nil") => `(tactic| (k_here; refine stop_ ?_))
local macro_rules | `(tactic| walk_at "call ref nil nil") => `(tactic| (k_here; refine stop_ ?_))
local macro_rules | `(tactic| walk_at "pyIter ref") => `(tactic| (k_here; refine stop_ ?_))
local macro_rules | `(tactic| walk_at "subscriptTail Name Call ref int") => `(tactic| (k_here; refine stop_ ?_))
local macro_rules | `(tactic| walk_at "InvPostN") => `(tactic| (refine stop_ ?_))
local macro_rules | `(tactic| walk_at "InvPostN next") => `(tactic| (refine stop_ ?_))
local macro_rules | `(tactic| walk_at "InvPostN cont") => `(tactic| (refine stop_ ?_))
local macro_rules | `(tactic| walk_at "InvEndN") => `(tactic| (refine stop_ ?_))
local macro_rules | `(tactic| walk_at "CompSrc") => `(tactic| (refine stop_ ?_))
local macro_rules | `(tactic| walk_at "CompSrc ref") => `(tactic| (refine stop_ ?_))
local macro_rules | `(tactic| k_inst) => `(tactic| exact instVt (by k_asm) (by k_mem) (by k_mem))
local macro_rules | `(tactic| walk_at "getMethod ref") => `(tactic| (k_here; (with_reducible show wpAny _ _ (getMethod (Value.ref _) (Str.ofString "replace") _) _ _ _); refine' method_bi (C := 335) (id := "str.replace") ?X ?I ?k1 ?k2 ?k3 ?k4 ?k5 ?_; (case X => k_in); (case I => k_inst); (case k1 => k_is); (case k2 => k_is); (case k3 => k_is); (case k4 => k_is); (case k5 => rfl)))
local macro_rules | `(tactic| walk_at "call builtin:str.replace") => `(tactic| ((with_reducible show wpAny _ _ (call (Value.builtin "str.replace") [Value.ref _, Value.str _ _, Value.str _ _]) _ _ _); (refine' replR ?X ?I ?k9 ?k1 ?k2 ?k3 ?k4 ?k5 ?k6 ?k0 ?_; (case X => k_in); (case I => k_inst); (case k9 => k_is); (case k0 => (try dsimp only); omega); (case k1 => show @Ne Nat _ _; omega); (case k2 => show @Ne Nat _ _; omega); (case k3 => show @Ne Nat _ _; omega); (case k4 => decide); (case k5 => omega); (case k6 => decide)); intro _ _ _ _ _ _; (try dsimp only)))
local macro_rules | `(tactic| walk_at "getMethod str") => `(tactic| (refine encode_get ?_))
local macro_rules | `(tactic| walk_at "call builtin:isinstance") => `(tactic| (k_here; (with_reducible show wpAny _ _ (call _ [Value.ref _, Value.ref _]) _ _ _); k_dflt (refine' kia_tup (kitx_bare ?k4 ?k5 ?k6 ?k7 ?k8 ?k9) ?X ?I ?p ?ee ?nb ?_; (case p => kit_tp); (case X => k_in); (case I => k_inst); (case ee => kit_is); (case nb => kit_nb); (case k4 => k_is); (case k5 => k_is); (case k6 => k_is); (case k7 => k_is); (case k8 => k_is); (case k9 => k_is); k_whole; intro _)))
local macro_rules | `(tactic| walk_at "call builtin:isinstance") => `(tactic| (k_here; (with_reducible show wpAny _ _ (call _ [Value.ref _, Value.type _]) _ _ _); k_dflt (refine' kia_one (kitx_bare ?k4 ?k5 ?k6 ?k7 ?k8 ?k9) ?X ?I ?ee ?nb ?_; (case X => k_in); (case I => k_inst); (case ee => kit_is); (case nb => kit_nb); (case k4 => k_is); (case k5 => k_is); (case k6 => k_is); (case k7 => k_is); (case k8 => k_is); (case k9 => k_is); k_whole; intro _)))
section
variable {w : World} {mean : ExcName → Option Value} {mg mb : Str → Option Value} {dp un : Nat} {gd : Option (List Code)} {cn : Str} {cs : Scope} {a : Addr} {ccd : Value} {cl : List (Str × Addr)} {outer : List Env} {A₀ : Around} {base h₀ : Heap} {L : Addr} {m : Str → Option Value} {s : Shared} {Q E : Value → Shared → Prop} {news : List (Addr × Obj)}
theorem vtext_call (x : Str) (t : Tok) (B : Below A₀ base outer h₀) (F : Fr h₀ L s.heap m) (X : (hd.heap_39 w.params).In h₀) (N : News h₀ L s.heap news) (T : TopC mean mg mb h₀) (hk : cs.kind = .function) (hd : dp + 40 < recursionLimit) (hu : un + 320 < cLine) (hx : x.length ≤ 200) (hp : 1 ≤ s.toks)
   (h : ∀ O dd tt sl h' tk', 1 ≤ tk' → Fr h₀ L h' m → News h₀ L h' ((O, vtObj dd x tt sl) :: (dd, W.emptyDict) :: news) → (∀ p ∈ news, p.1 ≠ O ∧ p.1 ≠ dd) → Q (.ref O) { s with heap := h', toks := tk' }) :
   wpAny (model PG w) (ktrTop dp un gd cn cs L a ccd cl outer) (call (.ref 335) [.str x t] []) Q E s := by
  refine wpAny_with_toks (n := 1) hp ?_
  refine make_new (K := Mine.hd.heap_39 w.params) (C := 335) F X (by k_is) rfl (by k_is) (by k_is) (by k_is) (by k_is) (by k_is) (by k_is) (by k_is) (by k_is) (by k_is) (by rfl) (fun h' X' => (smakes_of X' (by k_is) rfl rfl rfl rfl (by k_is)).made) ?_
  rw [under_tc]
  refine vnew_call x t B F X N T hk (by omega) (by omega) hx (fun O dd tt sl h' tk' F' N' hap => ?_)
  exact ⟨O, _, _, rfl, instVt N' (.head _) (.tail _ (.head _)), X.keeps F'.keep, fun hp' => h O dd tt sl h' tk' hp' F' N' hap⟩
theorem toUniR_call (O dd : Addr) (x : Str) (t : Tok) (sl : Array (Option Value)) (B : Below A₀ base outer h₀) (F : Fr h₀ L s.heap m) (X : (hd.heap_39 w.params).In h₀) (N : News h₀ L s.heap ((O, vtObj dd x t sl) :: (dd, W.emptyDict) :: news)) (hap : ∀ p ∈ news, p.1 ≠ O ∧ p.1 ≠ dd) (T : TopC mean mg mb h₀) (hk : cs.kind = .function) (hd : dp + 10 < recursionLimit) (hu : un + 80 < cLine) (hp : 1 ≤ s.toks)
   (h : ∀ h' tk', 1 ≤ tk' → Fr h₀ L h' m → News h₀ L h' ((O, vtObj dd x t sl) :: (dd, W.emptyDict) :: news) → Q (.ref O) { s with heap := h', toks := tk' }) :
   wpAny (model PG w) (ktrTop dp un gd cn cs L a ccd cl outer) (call (.ref 47) [.ref O] []) Q E s := by
  refine wpAny_with_toks (n := 1) hp ?_
  refine' hidCall [(O, vtObj dd x t sl), (dd, W.emptyDict)] news ?k1 ?k2 ?k3 ?k4 ?k4b ?k4c ?k5 ?kF ?kK ?k6 ?k7 ?k8 ?k9 ?kB ?c5 ?c2 ?c3 ?c4 ?cp ?_
  (case k4 => exact fun p hp => N p (by rcases List.mem_cons.mp hp with rfl | hp; exact .head _; rw [List.mem_singleton.mp hp]; exact .tail _ (.head _)))
  (case k4b => exact fun p hp => N p (.tail _ (.tail _ hp)))
  (case k4c => exact fun p hp hm => by rcases List.mem_cons.mp hm with e | hm; exact (hap p hp).1 e; exact (hap p hp).2 (List.mem_singleton.mp hm))
  walk_at "h_enter"
  k_steps
  refine leaveP_ (by k_asm) (news' := [_, _]) (by k_asm) (fun kF kN hp' => ?_)
  exact h _ _ hp' kF kN
theorem escR_call (O dd : Addr) (x : Str) (t : Tok) (sl : Array (Option Value)) (B : Below A₀ base outer h₀) (F : Fr h₀ L s.heap m) (X : (hd.heap_39 w.params).In h₀) (N : News h₀ L s.heap ((O, vtObj dd x t sl) :: (dd, W.emptyDict) :: news)) (hap : ∀ p ∈ news, p.1 ≠ O ∧ p.1 ≠ dd) (T : TopC mean mg mb h₀) (hk : cs.kind = .function) (hd : dp + 20 < recursionLimit) (hu : un + 160 < cLine) (hx : x.length ≤ 200) (hp : 1 ≤ s.toks)
   (h : ∀ t' h' tk', 1 ≤ tk' → Fr h₀ L h' m → News h₀ L h' ((O, vtObj dd x t sl) :: (dd, W.emptyDict) :: news) → Q (.str (escT x) t') { s with heap := h', toks := tk' }) :
   wpAny (model PG w) (ktrTop dp un gd cn cs L a ccd cl outer) (call (.ref 54) [.ref O] []) Q E s := by
  refine wpAny_with_toks (n := 1) hp ?_
  refine' hidCall [(O, vtObj dd x t sl), (dd, W.emptyDict)] news ?k1 ?k2 ?k3 ?k4 ?k4b ?k4c ?k5 ?kF ?kK ?k6 ?k7 ?k8 ?k9 ?kB ?c5 ?c2 ?c3 ?c4 ?cp ?_
  (case k4 => exact fun p hp => N p (by rcases List.mem_cons.mp hp with rfl | hp; exact .head _; rw [List.mem_singleton.mp hp]; exact .tail _ (.head _)))
  (case k4b => exact fun p hp => N p (.tail _ (.tail _ hp)))
  (case k4c => exact fun p hp hm => by rcases List.mem_cons.mp hm with e | hm; exact (hap p hp).1 e; exact (hap p hp).2 (List.mem_singleton.mp hm))
  walk_at "h_enter"
  k_steps
  refine go_ ?_
  rename Fr _ _ _ _ => F2
  rename News _ _ _ _ => N2
  rename @LT.lt Nat _ O _ ∧ _ => lDE
  obtain ⟨lD, lE⟩ := lDE
  refine toUniR_call (outer := _ :: outer) (news := [(_, _)]) O dd x t sl (by k_asm) F2 (by k_asm) (fun p hp => N2 p (by rcases List.mem_cons.mp hp with rfl | hp; exact .tail _ (.head _); rcases List.mem_cons.mp hp with rfl | hp; exact .tail _ (.tail _ (.head _)); rw [List.mem_singleton.mp hp]; exact .head _)) (fun p hp => by rw [List.mem_singleton.mp hp]; exact ⟨Nat.ne_of_gt lD, Nat.ne_of_gt lE⟩) (by k_asm) (by rfl) (by ktr_room) (by ktr_units) (by (try dsimp only); omega) (fun h9 tk9 hp9 F9 N9 => ?_)
  clear F2 N2
  (try k_fold)
  k_steps
  rename News _ _ _ _ => N3
  refine leaveP_ (by k_asm) (news' := [_, _]) (fun p hp => N3 p (by rcases List.mem_cons.mp hp with rfl | hp; exact .head _; rw [List.mem_singleton.mp hp]; exact .tail _ (.head _))) (fun kF kN hp' => ?_)
  subst_vars
  exact h _ _ _ hp' kF kN
theorem toical_call (O dd : Addr) (x : Str) (t : Tok) (sl : Array (Option Value)) (B : Below A₀ base outer h₀) (F : Fr h₀ L s.heap m) (X : (hd.heap_39 w.params).In h₀) (N : News h₀ L s.heap ((O, vtObj dd x t sl) :: (dd, W.emptyDict) :: news)) (hap : ∀ p ∈ news, p.1 ≠ O ∧ p.1 ≠ dd) (T : TopC mean mg mb h₀) (hk : cs.kind = .function) (hd : dp + 40 < recursionLimit) (hu : un + 320 < cLine) (hx : x.length ≤ 69) (hW : (escT x).length ≤ 138) (hWo : okStr (escT x)) (hp : 1 ≤ s.toks)
   (h : ∀ t' h' tk', 1 ≤ tk' → Fr h₀ L h' m → News h₀ L h' ((O, vtObj dd x t sl) :: (dd, W.emptyDict) :: news) → Q (.bytes (encB (escT x)) t') { s with heap := h', toks := tk' }) :
   wpAny (model PG w) (ktrTop dp un gd cn cs L a ccd cl outer) (call (.ref 313) [.ref O] []) Q E s := by
  refine wpAny_with_toks (n := 1) hp ?_
  refine' hidCall [(O, vtObj dd x t sl), (dd, W.emptyDict)] news ?k1 ?k2 ?k3 ?k4 ?k4b ?k4c ?k5 ?kF ?kK ?k6 ?k7 ?k8 ?k9 ?kB ?c5 ?c2 ?c3 ?c4 ?cp ?_
  (case k4 => exact fun p hp => N p (by rcases List.mem_cons.mp hp with rfl | hp; exact .head _; rw [List.mem_singleton.mp hp]; exact .tail _ (.head _)))
  (case k4b => exact fun p hp => N p (.tail _ (.tail _ hp)))
  (case k4c => exact fun p hp hm => by rcases List.mem_cons.mp hm with e | hm; exact (hap p hp).1 e; exact (hap p hp).2 (List.mem_singleton.mp hm))
  walk_at "h_enter"
  k_steps
  refine go_ ?_
  refine escR_call (outer := _ :: outer) (news := []) O dd x t sl (by k_asm) (by k_asm) (by k_asm) (by k_asm) (fun _ h => nomatch h) (by k_asm) (by rfl) (by ktr_room) (by ktr_units) (by omega) (by (try dsimp only); omega) (fun t9 h9 tk9 hp9 F9 N9 => ?_)
  (try k_fold)
  k_steps
  refine encode_call (okSur hWo) (by omega) ?_
  k_steps
  refine leaveP_ (by k_asm) (news' := [_, _]) (by k_asm) (fun kF kN hp' => ?_)
  exact h _ _ _ hp' kF kN
end
end
section
theorem off_Law : True := by
  w_top off
  exact trivial
local macro_rules | `(tactic| walk_at "p_enter") => `(tactic| (k_dflt (refine' pureCall _ ?k1 ?k2 ?k3 ?k4 ?k5 ?kF ?kK ?k6 ?k7 ?k8 ?k9 ?kB ?c5 ?c2 ?c3 ?c4 ?cp ?_; (case cp => first | assumption | ((try dsimp only); omega)); (case kF => exact rfl); (case kK => first | assumption | exact rfl); (case k1 => k_asm); (case k2 => k_asm); (case k3 => k_asm); (case k4 => k_asm); (case k5 => k_asm); (case k6 => k_is); (case k7 => k_is); (case k8 => ktr_room); (case k9 => first | exact BindsTo.of_eq rfl | exact binds_K (by k_in) rfl (by k_is) rfl rfl rfl); (case c5 => decide); (case kB => exact locs rfl); (case c2 => exact rfl); (case c3 => exact rfl); (case c4 => exact rfl); k_whole; intro g' L' h' tk' htk' F' N' B' X' T' hin'; (try dsimp only); (try k_fold))))
local macro_rules | `(tactic| walk_at "h_enter") => `(tactic| (k_dflt ((case cp => first | assumption | ((try dsimp only); omega)); (case k1 => k_asm); (case k2 => k_asm); (case k3 => k_asm); (case kF => exact rfl); (case kK => first | assumption | exact rfl); (case k5 => k_asm); (case k6 => k_is); (case k7 => k_is); (case k8 => ktr_room); (case k9 => first | exact BindsTo.of_eq rfl | exact binds_K (by k_in) rfl (by k_is) rfl rfl rfl); (case c5 => decide); (case kB => exact locs rfl); (case c2 => exact rfl); (case c3 => exact rfl); (case c4 => exact rfl); k_whole; intro g' L' h' tk' htk' F' N' B' X' T' hin'; (try dsimp only); (try k_fold))))
local macro_rules | `(tactic| walk_at "execs cons") => `(tactic| (k_here; (with_reducible refine wpAny_execs_cons ?_); try dsimp only))
local macro_rules | `(tactic| walk_at "execs cons") => `(tactic| (k_here; (with_reducible refine execs_consT ?hp ?_); (case hp => ((try dsimp only); omega)); try dsimp only))
local macro_rules | `(tactic| walk_at "TokOk") => `(tactic| (intro hpT; (try dsimp only at hpT); (try dsimp only)))
local macro_rules | `(tactic| walk_at "call builtin:str.replace") => `(tactic| ((with_reducible show wpAny _ _ (call (Value.builtin "str.replace") [Value.str _ _, Value.str _ _, Value.str _ _]) _ _ _); (refine replN ?k0 ?k1 ?k2 ?k3 ?k4 ?k5 ?k6 ?_; (case k0 => (try dsimp only); omega); (case k1 => show @Ne Nat _ _; omega); (case k2 => show @Ne Nat _ _; omega); (case k3 => show @Ne Nat _ _; omega); (case k4 => decide); (case k5 => omega); (case k6 => decide)); intro _ _ _ _ _ _; (try dsimp only)))
local macro_rules | `(tactic| walk_at "exec For Name Subscript cons nil") => `(tactic| (k_here; refine stop_ ?_))
local macro_rules | `(tactic| walk_at "exec For Name Call cons nil") => `(tactic| (k_here; refine stop_ ?_))
local macro_rules | `(tactic| walk_at "exec While Compare cons nil") => `(tactic| (k_here; refine stop_ ?_))
local macro_rules | `(tactic| walk_at "exec While BoolOp cons nil") => `(tactic| (k_here; refine stop_ ?_))
local macro_rules | `(tactic| walk_at "call ref") => `(tactic| (k_here; refine stop_ ?_))
local macro_rules | `(tactic| walk_at "call ref cons nil") => `(tactic| (k_here; refine stop_ ?_))
local macro_rules | `(tactic| walk_at "call ref nil nil") => `(tactic| (k_here; refine stop_ ?_))
local macro_rules | `(tactic| walk_at "pyIter ref") => `(tactic| (k_here; refine stop_ ?_))
local macro_rules | `(tactic| walk_at "subscriptTail Name Call ref int") => `(tactic| (k_here; refine stop_ ?_))
local macro_rules | `(tactic| walk_at "InvPostN") => `(tactic| (refine stop_ ?_))
local macro_rules | `(tactic| walk_at "InvPostN next") => `(tactic| (refine stop_ ?_))
local macro_rules | `(tactic| walk_at "InvPostN cont") => `(tactic| (refine stop_ ?_))
local macro_rules | `(tactic| walk_at "InvEndN") => `(tactic| (refine stop_ ?_))
local macro_rules | `(tactic| walk_at "CompSrc") => `(tactic| (refine stop_ ?_))
local macro_rules | `(tactic| walk_at "CompSrc ref") => `(tactic| (refine stop_ ?_))
section
variable {prog : Program} {w : World} {A : Around} {s : Shared} {h₀ : Heap} {L : Addr} {m : Str → Option Value} {env : Env}
theorem compRest_ind {elt : Expr} {x : Str} {scope : Scope} {cl : List (Str × Addr)} {S : List (Addr × Obj) → Prop} {P : Nat → Value → Prop} {Fin : List Value → List (Addr × Obj) → Prop} {n : Nat} {news : List (Addr × Obj)} (Inv : Nat → List Value → Prop) (hS : S news)
    (step : ∀ i ys v I oI C oC D m₂ h tk (E' : Value → Shared → Prop), Inv i ys → i < n → P i v → LCg.NsObj oC m₂ → m₂ x = some v → Fr h₀ L h m → News h₀ L h ((I, oI) :: (C, oC) :: (D, LCg.lst ys) :: news) → LCg.Off3 I C D news → ((@Ne Nat I C) ∧ (@Ne Nat I D) ∧ (@Ne Nat C D)) →
      wpAny (model prog w) A (eval elt (compEnvC scope cl C env)) (fun y s' => Stop (Inv (i + 1) (ys ++ [y]) ∧ ∃ h' tk', s' = { s with heap := h', toks := tk' } ∧ Fr h₀ L h' m ∧ News h₀ L h' ((I, oI) :: (C, oC) :: (D, LCg.lst ys) :: news))) E' { s with heap := h, toks := tk })
    (fin : ∀ ys, Inv n ys → Fin ys news) : ∀ (k i : Nat) (ys : List Value), i + k = n → Inv i ys → LCg.CompRest prog w A h₀ L m env elt x scope cl s S P Fin k i ys news := by
  intro k
  induction k with
  | zero =>
    intro i ys hi hv
    have e : i = n := by omega
    subst e
    exact fin ys hv
  | succ k ih =>
    intro i ys hi hv v I oI C oC D m₂ h tk E' hP hoC hmx F N off ne
    refine wpAny_mono (step i ys v I oI C oC D m₂ h tk E' hv (by omega) hP hoC hmx F N off ne) (fun y s' hy => ?_) fun _ _ e => e
    obtain ⟨hv', h', tk', rfl, F', N'⟩ := hy
    exact ⟨h', tk', news, rfl, F', N', off, hS, ih (i + 1) (ys ++ [y]) (by omega) hv'⟩
end
local macro_rules | `(tactic| walk_at "call builtin:dict.get cons nil") => `(tactic| (k_here; refine stop_ ?_))
local macro_rules | `(tactic| walk_at "call builtin:dict.get") => `(tactic| (k_here; refine stop_ ?_))
local macro_rules | `(tactic| walk_at "getMethod ref") => `(tactic| (k_here; (with_reducible show wpAny _ _ (getMethod (Value.ref _) (Str.ofString "to_ical") _) _ _ _); refine stop_ ?_))
local macro_rules | `(tactic| walk_at "getMethod str") => `(tactic| (refine encode_get ?_))
local macro_rules | `(tactic| walk_at "call builtin:str.join cons nil") => `(tactic| (k_here; refine stop_ ?_))
local macro_rules | `(tactic| walk_at "call builtin:str.join") => `(tactic| (k_here; refine stop_ ?_))
local macro_rules | `(tactic| walk_at "execs cons If cons") => `(tactic| (k_here; refine stop_ ?_))
local macro_rules | `(tactic| walk_at "compareOp In str str") => `(tactic| (k_here; refine stop_ ?_))
local macro_rules | `(tactic| walk_at "compareOp NotIn str str") => `(tactic| (k_here; refine stop_ ?_))
theorem join_rows {prog : Program} {w : World} {A : Around} {E : Value → Shared → Prop} {s : Shared} {D : Addr} {vr : List Value} {rows : List Nat} {t : Tok} {Q : Value → Shared → Prop} {n : Nat} (hp : n ≤ s.toks) (hl : s.heap.IsList D vr.toArray) (hS : StrsAre vr (rows.map sg)) (hr : rows.length ≤ 1000)
    (h : ∀ t' k, n ≤ k → Q (.str ⟨rows.toArray⟩ t') { s with toks := k }) : wpAny (model prog w) A (call (.builtin "str.join") [.str (Str.ofString "") t, .ref D]) Q E s := by
  refine wpAny_mono (wpAny_toks_of (n := n) (Q := fun v s' => n ≤ s'.toks → Q v s') (E := E) hp ?_) (fun _ _ x => x.2 x.1) (fun _ _ x => x.2)
  refine join_listW (ys := rows.map sg) hl hS (by decide) (by rw [sg_weight]; omega) (fun t9 k9 hk => ?_)
  rw [join_sgs]
  exact h t9 k9 hk
local macro_rules | `(tactic| walk_at "compareOp Eq ref ref") => `(tactic| (k_here; refine stop_ ?_))
theorem psaid : OpenLaw.wellSaid PySem.Challenge.rw_be0020_01 = true := by kernel_rfl
theorem law_all : PySem.Challenge.rw_be0020_01.Holds := by
  w_on
  refine holds_law psaid fun said => ?_
  refine holds_open (q := hd.view_39) (loose := looseE) (Xt := fun s => xlAt hd.view_39 [] s && recOk (RowW.records (OpenRow.toRowW (OpenLaw.row PySem.Challenge.rw_be0020_01))) s) (XP := XL hd.view_39 []) (Yf := Hook.obs hk) (Ya := Hook.val hk) (YP := Hook.says hk) (N := 5534) ?hl (Hook.of hk) (Hook.keeps hk) (fun s e => xl_of s (Bool.and_eq_true_iff.mp e).1) XL.keeps (by rfl) (by rfl) (by rfl) (fun s e => recFacts_of (Bool.and_eq_true_iff.mp e).2) (by rfl) (by first | assumption | decide +kernel) (by decide +kernel) ⟨rfl, rfl, rfl, rfl, rfl, by decide +kernel⟩ ?hw ?hc
  case hl => exact left_
  case hw => w_witness2
  clear said
  k_go0
  all_goals (try k_fold)
  rename Fr _ _ _ _ => F0
  rename News _ _ _ _ => N0
  rename Top _ _ _ _ _ _ => T0
  rename Below _ _ _ _ => B0
  rename IntsAre _ _ => I0
  rename Heap.IsList _ _ _ => L0
  rename Frag.In _ _ => X0
  rename CellsAre _ _ _ => CA0
  rename PySem.Obj.data _ = _ => hcd0
  rename_i w s0 s1 mg mb G Y fa o pm doc ho hg XX V GL B TE TW w10 w9 M w8 w7 hcd ns hs hlay hL1 hr1 hl2 w5 w4 sl vs w1 ra wl r0 hr hc1 hc2 hD h1 tk1 cob
  replace F0 := frCanon F0 [(Str.ofString "script", .ref sl)] (by exact ⟨rfl, trivial⟩)
  replace hcd0 : cob.data = .cell none := hcd0
  have hlen : ns.length ≤ 63 := by omega
  clear CA0 hD hc1 hc2 hr r0 wl ra hs hlay hL1 hr1 hl2 hcd M TW TE B GL V XX ho Y G
  k_steps
  refine go_ ?_
  refine bag_call sl vs ns (by k_asm) F0 (by k_asm) N0 (by k_asm) rfl (by ktr_room) (by ktr_units) (k := 0) (Nat.zero_le _) L0 I0 (by omega) (fun b n t e h2 tk2 hp2 hn0 F2 N2 hap2 => ?_)
  have hCb : s1.heap.objs.size + 1 ≠ b := hap2 _ (.head _)
  clear F0 N0 hap2 hp2 hn0
  (try k_fold)
  k_steps
  refine go_ ?_
  rename Fr _ _ _ _ => F3
  rename News _ _ _ _ => N3
  refine text_call b n t e (by k_asm) F3 (by k_asm) N3 (fun p hp => by rw [List.mem_singleton.mp hp]; exact hCb) (by k_asm) rfl (by ktr_room) (by ktr_units) (by (try dsimp only); omega) (fun x n2 t1 t2 h4 tk4 hp4 hxl hxo F4 N4 => ?_)
  clear F3 N3
  (try k_fold)
  k_steps
  refine go_ ?_
  rename Fr _ _ _ _ => F5
  rename News _ _ _ _ => N5
  refine plain_call x _ (by k_asm) F5 (by k_asm) N5 (by k_asm) rfl (by ktr_room) (by ktr_units) (by omega) (by (try dsimp only); omega) (fun D vr e2 h6 tk6 hp6 hSr F6 N6 hap6 => ?_)
  have hbD : b ≠ D := hap6 _ (.head _)
  have hcD : s1.heap.objs.size + 1 ≠ D := hap6 _ (.tail _ (.head _))
  clear F5 N5 hap6
  (try k_fold)
  k_steps
  refine go_ ?_
  rename Fr _ _ _ _ => F7
  rename News _ _ _ _ => N7
  have hvl : vr.length = (plainL x.cps.toList).length := by rw [strsAre_len hSr, List.length_map]
  refine LCg.CompSrc.ledger rfl F7 N7 (.tail _ (.head _)) ?hsz (fun gg => ?_)
  case hsz =>
    rw [List.size_toArray, hvl, sizeLine_eq]
    have := plainL_len x.cps.toList
    have : x.cps.toList.length = x.length := Array.length_toList
    omega
  generalize hrw : plainL x.cps.toList = rows at hSr hvl
  rename Obj.IsDictOf _ _ _ => hDict
  rename PyProof.V.FlatPairs _ _ _ => hFlat
  rename (_ == sysModules) = false => hSys
  refine compRest_ind (n := vr.toArray.size) (fun i ys => StrsAre ys ((rows.take i).map fun c => (⟨(mk c).toArray⟩ : Str))) ?hS (fun i ys v I oI C oC DD m₂ hh tk E' hI hi hP hoC hmx F8 N8 off8 ne8 => ?_) (fun ys hI => ?_) _ 0 [] (Nat.zero_add _) .nil
  case hS => exact .inr ⟨_, .tail _ (.head _), rfl, _, rfl⟩
  · have hi' : i < rows.length := by rw [List.size_toArray] at hi; omega
    obtain ⟨tv, rfl⟩ := strsAre_get hSr (j := i) (by simpa using hP)
    clear F7 N7
    k_steps
    refine go_ ?_
    refine get_mark ⟨hSys, _, kda_dict N8 (by k_mem) hDict, hFlat⟩ _ _ (fun t9 => ?_)
    refine go_ ⟨?_, _, _, rfl, F8, N8⟩
    have e : rows.take (i + 1) = rows.take i ++ [rows.getD i 0] := by
      rw [List.take_add_one, List.getElem?_eq_getElem hi', List.getD_eq_getElem?_getD, List.getElem?_eq_getElem hi']
      rfl
    rw [e, List.map_append]
    exact StrsAre.append' hI (.cons _ _ .nil)
  · intro DL h9 tk9 F9 N9 off9
    have hD9 := off9.2.1
    have hb9 := off9.2.2.1
    clear F7 N7 hDict hFlat hSys off9
    rw [List.size_toArray, hvl, List.take_length] at hI
    dsimp only
    k_steps
    refine go_ ?_
    refine join_listW (ys := rows.map fun c => (⟨(mk c).toArray⟩ : Str)) (N9.isList (.head _)) hI (by decide) ?hw (fun t9 k9 => ?_)
    case hw =>
      have h1 := mk_weight rows
      have h2 := plainL_len x.cps.toList
      have h3 : x.cps.toList.length = x.length := Array.length_toList
      rw [hrw] at h2
      omega
    rw [join_mk]
    have hWo : okStr ⟨(dueL rows).toArray⟩ := hrw ▸ okStr_due hxo
    have hWl : (⟨(dueL rows).toArray⟩ : Str).length ≤ 138 := by
      have h1 := dueL_len rows
      have h2 := plainL_len x.cps.toList
      have h3 : x.cps.toList.length = x.length := Array.length_toList
      have h4 : (⟨(dueL rows).toArray⟩ : Str).length = (dueL rows).length := by simp [Str.length]
      rw [hrw] at h2
      omega
    generalize hW : (⟨(dueL rows).toArray⟩ : Str) = W at hWo hWl ⊢
    k_steps
    refine go_ ?_
    rename Fr _ _ _ _ => F10
    rename News _ _ _ _ => N10
    refine escape_call x t1 (by k_asm) F10 (by k_asm) N10 (by k_asm) rfl (by ktr_room) (by ktr_units) (by omega) (by (try dsimp only); omega) (fun t11 h11 tk11 hp11 F11 N11 => ?_)
    rw [esc_due, hrw, hW]
    clear F10 N10
    (try k_fold)
    k_steps
    refine go_ (execs_consT (by (try dsimp only); omega) ?_)
    (try dsimp only)
    k_steps
    refine go_ ?_
    rename Fr _ _ _ _ => F12
    rename News _ _ _ _ => N12
    refine vtext_call x t1 (by k_asm) F12 (by k_asm) N12 (by k_asm) rfl (by ktr_room) (by ktr_units) (by omega) (by (try dsimp only); omega) (fun O dO tO sO h13 tk13 hp13 F13 N13 hap13 => ?_)
    clear F12 N12
    (try k_fold)
    k_steps
    refine go_ ?_
    rename Fr _ _ _ _ => F14
    rename News _ _ _ _ => N14
    refine method_fn (K := hd.heap_39 w.params) (C := 335) (f := 313) (od := some PySem.W.emptyDict) (X0.keeps F14.keep) ⟨(N14 _ (.head _)).1, rfl, rfl, (N14 _ (.tail _ (.head _))).1⟩ (by k_is) (by k_is) (by k_is) (by k_is) rfl ?_
    k_steps
    refine go_ ?_
    refine toical_call O dO x tO sO (by k_asm) F14 (by k_asm) N14 hap13 (by k_asm) rfl (by ktr_room) (by ktr_units) (by omega) (by rw [esc_due, hrw, hW]; exact hWl) (by rw [esc_due, hrw, hW]; exact hWo) (by (try dsimp only); omega) (fun t15 h15 tk15 hp15 F15 N15 => ?_)
    rw [esc_due, hrw, hW]
    clear F14 N14
    (try k_fold)
    k_steps
    refine encode_call (okSur hWo) (by omega) ?_
    k_steps
    refine go_ (execs_consT (by (try dsimp only); omega) ?_)
    (try dsimp only)
    k_steps
    refine go_ ?_
    rename Fr _ _ _ _ => F16
    rename News _ _ _ _ => N16
    refine ub_call W t11 (by k_asm) F16 (by k_asm) N16 (by k_asm) rfl (by ktr_room) (by ktr_units) (by omega) (by (try dsimp only); omega) (fun t17 h17 tk17 hp17 F17 N17 => ?_)
    have hWl2 : W.cps.toList = dueL rows := by rw [← hW]
    rw [hWl2, ub_due]
    have N18 : News _ _ _ _ := fun p hp => N17 p (.tail _ (.tail _ (.tail _ (.tail _ hp))))
    have hrl : rows.length ≤ 69 := by
      have h2 := plainL_len x.cps.toList
      have h3 : x.cps.toList.length = x.length := Array.length_toList
      rw [hrw] at h2
      omega
    clear F16 N16 N17
    (try k_fold)
    k_steps
    refine go_ ?_
    refine join_rows (n := 1) (by (try dsimp only); omega) (N18.isList (.head _)) hSr (by omega) (fun t19 k19 hjk19 => ?_)
    k_steps
    refine go_ (execs_consT (by (try dsimp only); omega) ?_)
    (try dsimp only)
    k_steps
    refine go_ ?_
    refine in_str ?_
    rw [notIn (c := 10) (by decide) (by rw [hWl2]; exact no10 rows)]
    k_steps
    refine go_ ?_
    refine in_str ?_
    rw [notIn (c := 13) (by decide) (by rw [hWl2, ← hrw]; exact no13 _)]
    k_steps
    refine go_ ?_
    rename Fr _ _ _ _ => F20
    rename News _ _ _ _ => N20
    have F21 := frCanon F20 [(Str.ofString "rows", .ref D), (Str.ofString "written", .str W t11), (Str.ofString "bag", .ref b)] (by exact ⟨rfl, rfl, rfl, trivial⟩)
    refine While_inv2 (fun n mm nx => ∃ (pre post : List Nat) (ti : Tok), nx = [(D, listOf vr.toArray e2), (b, listOf [.int n2 t2].toArray e)] ∧ (dueL pre).length + n = W.length ∧ rows = pre ++ post ∧ allIn mm [(Str.ofString "k", .int ((dueL pre).length : Int) ti), (Str.ofString "rows", .ref D), (Str.ofString "written", .str W t11), (Str.ofString "bag", .ref b)]) (n₀ := W.length) F20 (fun p hp => N20 p (List.mem_append_left [_] hp)) ⟨[], rows, _, rfl, by simp [dueL], rfl, by exact ⟨rfl, rfl, rfl, rfl, trivial⟩⟩ (fun n m₁ nx h1 tk1 F22 N22 hJ => ?_) ?hE
    case hE => with_unfolding_all passes_own
    obtain ⟨pre, post, ti, rfl, hi, hrows, hm⟩ := hJ
    replace F22 := frCanon F22 _ hm
    clear F20 F21 N20
    k_steps
    · rename_i hlt9
      rename (_ : Int) < _ => hlt8
      have hlt : (dueL pre).length < W.length := by omega
      obtain ⟨c, r, rfl, hdrop⟩ := at_mark (hWl2.trans (by rw [hrows])) hlt
      have hcp : W.cps.toList.drop (dueL pre).length = cp W (dueL pre).length :: W.cps.toList.drop ((dueL pre).length + 1) := drop_at hlt
      refine go_ (execs_consT (by (try dsimp only); omega) ?_)
      (try dsimp only)
      k_steps
      refine go_ ?_
      refine in_str ?_
      have hsep : cp W (dueL pre).length ∉ (Str.ofString ",;").cps.toList := by
        have e9 : (Str.ofString ",;").cps.toList = [44, 59] := by decide
        rw [e9]
        rw [hcp] at hdrop
        rcases isMk_em c with hc | hc
        · obtain ⟨d, hd, _⟩ := mk_two hc
          rw [hd] at hdrop
          rw [(List.cons.inj hdrop).1]
          decide
        · rw [mk_one hc] at hdrop
          rw [(List.cons.inj hdrop).1]
          unfold isMk at hc
          simp
          omega
      rw [notIn (item_sg hlt) hsep]
      k_steps
      · refine go_ (execs_consT (by (try dsimp only); omega) ?_)
        (try dsimp only)
        k_steps
        · rename Fr _ _ _ _ => F24
          rename News _ _ _ _ => N24
          rename (Txt.item _ _ == _) = true => q92
          rw [item_sg hlt, sg_beq (c := 92) (by decide)] at q92
          obtain ⟨hmk, hle, hml, d, hds, hdr⟩ := step_two hdrop (of_decide_eq_true q92) hlt
          have hl2 : (dueL (pre ++ [c])).length = (dueL pre).length + 2 := by rw [dueL_append, List.length_append, dueL_cons, List.length_append, hml]; rfl
          have hl3 : ((dueL (pre ++ [c])).length : Int) = ((dueL pre).length : Int) + 2 := by omega
          exact wend (n - 2) F24 (fun p hp => N24 p (.tail _ hp)) (by omega) ⟨pre ++ [c], r, _, rfl, by omega, by rw [hrows, List.append_assoc]; rfl, by rw [hl3]; exact ⟨rfl, rfl, rfl, rfl, trivial⟩⟩
        · rename (Txt.item _ _ == _) = true => q92
          rename (List.any _ _) = false => qany
          rw [item_sg hlt, sg_beq (c := 92) (by decide)] at q92
          obtain ⟨hmk, hle, hml, d, hds, hdr⟩ := step_two hdrop (of_decide_eq_true q92) hlt
          rw [slice_one hdr (by omega)] at qany
          exact absurd ((any_marks hds).symm.trans qany) (by decide)
      · rename Fr _ _ _ _ => F24
        rename News _ _ _ _ => N24
        rename (Txt.item _ _ == _) = false => q92
        rw [item_sg hlt, sg_beq (c := 92) (by decide)] at q92
        have hml := step_one hdrop (of_decide_eq_false q92) hlt
        have hl2 : (dueL (pre ++ [c])).length = (dueL pre).length + 1 := by rw [dueL_append, List.length_append, dueL_cons, List.length_append, hml]; rfl
        have hl3 : ((dueL (pre ++ [c])).length : Int) = ((dueL pre).length : Int) + 1 := by omega
        exact wend (n - 1) F24 N24 (by omega) ⟨pre ++ [c], r, _, rfl, by omega, by rw [hrows, List.append_assoc]; rfl, by rw [hl3]; exact ⟨rfl, rfl, rfl, rfl, trivial⟩⟩
    · refine go_ (execs_join (fun s' => ∃ h' tk' mm, s' = { s1 with heap := h', toks := tk' } ∧ 1 ≤ tk' ∧ Fr s1.heap s1.heap.objs.size h' mm ∧ News s1.heap s1.heap.objs.size h' [(D, listOf vr.toArray e2), (b, listOf [.int n2 t2].toArray e)] ∧ allIn mm [(Str.ofString "rows", .ref D), (Str.ofString "written", .str W t11), (Str.ofString "bag", .ref b)]) (by (try dsimp only); omega) ?rest ?first)
      case first =>
        (try dsimp only)
        k_steps
        refine go_ ?_
        refine join_rows (n := 1) (by (try dsimp only); omega) (N22.isList (.head _)) hSr (by omega) (fun t25 k25 hjk25 => ?_)
        k_steps
        refine go_ (notIn_str ?_)
        generalize hA : (Builtin.Str.occurrences (⟨rows.toArray⟩ : Str) (Str.ofString "\\n") 0 (⟨rows.toArray⟩ : Str).length 1).isEmpty = bA
        cases bA
        · dsimp only [Bool.not_false, Bool.not_true]
          k_steps
          refine go_ ⟨_, _, _, rfl, by (try dsimp only at *); omega, F22, N22, by exact ⟨rfl, rfl, rfl, trivial⟩⟩
        · dsimp only [Bool.not_false, Bool.not_true]
          k_steps
          refine go_ ?_
          refine join_rows (n := 1) (by (try dsimp only); omega) (N22.isList (.head _)) hSr (by omega) (fun t26 k26 hjk26 => ?_)
          k_steps
          refine go_ (notIn_str ?_)
          generalize hB : (Builtin.Str.occurrences (⟨rows.toArray⟩ : Str) (Str.ofString "\\N") 0 (⟨rows.toArray⟩ : Str).length 1).isEmpty = bB
          cases bB
          · dsimp only [Bool.not_false, Bool.not_true]
            k_steps
            refine go_ ⟨_, _, _, rfl, by (try dsimp only at *); omega, F22, N22, by exact ⟨rfl, rfl, rfl, trivial⟩⟩
          · dsimp only [Bool.not_false, Bool.not_true]
            k_steps
            refine go_ ?_
            refine unescape_call W t11 (by k_asm) F22 (by k_asm) N22 (by k_asm) rfl (by ktr_room) (by ktr_units) (by omega) (by (try dsimp only); omega) (fun t27 h27 tk27 hp27 F27 N27 => ?_)
            rw [une_due hWl2 hA hB]
            clear F22 N22
            (try k_fold)
            k_steps
            refine go_ ?_
            refine join_rows (n := 1) (by (try dsimp only); omega) (N27.isList (.head _)) hSr (by omega) (fun t28 k28 hjk28 => ?_)
            k_steps
            refine go_ ⟨_, _, _, rfl, by (try dsimp only at *); omega, F27, N27, by exact ⟨rfl, rfl, rfl, trivial⟩⟩
      case rest =>
        rintro s' ⟨h30, tk30, mm, rfl, hp30, F30, N30, hm30⟩
        replace F30 := frCanon F30 _ hm30
        rename Fr _ _ h1 _ => Fo
        rename News _ _ h1 _ => No
        clear Fo No
        k_steps
        refine go_ ?_
        refine text_call b n2 t2 e (by k_asm) F30 (by k_asm) (fun p hp => N30 p ((List.Perm.swap _ _ _).mem_iff.mp hp)) (fun p hp => by rw [List.mem_singleton.mp hp]; exact hbD.symm) (by k_asm) rfl (by ktr_room) (by ktr_units) (by (try dsimp only); omega) (fun y n3 t3 t4 h31 tk31 hp31 hyl hyo F31 N31 => ?_)
        clear F30 N30
        (try k_fold)
        k_steps
        refine go_ ?_
        rename Fr _ _ _ _ => F32
        rename News _ _ _ _ => N32
        refine escape_call y t3 (by k_asm) F32 (by k_asm) N32 (by k_asm) rfl (by ktr_room) (by ktr_units) (by omega) (by (try dsimp only); omega) (fun t33 h33 tk33 hp33 F33 N33 => ?_)
        rw [esc_due]
        clear F32 N32
        (try k_fold)
        k_steps
        refine go_ ?_
        refine plain_call y _ (by k_asm) F33 (by k_asm) N33 (by k_asm) rfl (by ktr_room) (by ktr_units) (by omega) (by (try dsimp only); omega) (fun D2 vr2 e4 h35 tk35 hp35 hSr2 F35 N35 hap35 => ?_)
        clear F33 N33
        (try k_fold)
        k_steps
        refine go_ ?_
        refine eq_rowsK (N35.isList (.head _)) hSr2 (N35.isList (.tail _ (.tail _ (.head _)))) hSr (okPlain hyo) (hrw ▸ okPlain hxo) (by ktr_units) ?_
        rw [← hW, due_beq]
        k_steps
end
end Mine
set_option maxRecDepth 100000 in
set_option maxHeartbeats 8000000 in
theorem PySem.Challenge.cw_be0020_01_holds : PySem.Challenge.rw_be0020_01.Holds :=
  Mine.law_all
