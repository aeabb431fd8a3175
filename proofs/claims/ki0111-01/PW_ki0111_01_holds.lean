import PyProof.Rows.All
import Wide.All
import OpenK.AllK
import Wide.FinOn
import Lean
import PySem.Challenge.RW_ki0111_01
open PySem PySem.W PyProof.Rows
set_option Elab.async false
set_option maxRecDepth 100000

namespace Mine

/-! The plain law: the pieces of a text between slashes. -/

def sp : List Nat → List (List Nat)
  | [] => [[]]
  | c :: r => if c = 47 then [] :: sp r else match sp r with
    | [] => [[c]]
    | h :: t => (c :: h) :: t

def glue : List (List Nat) → List Nat
  | [] => []
  | [x] => x
  | x :: y :: r => x ++ 47 :: glue (y :: r)

theorem sp_ne : ∀ l : List Nat, sp l ≠ []
  | [] => by simp [sp]
  | c :: r => by
    unfold sp
    split
    · simp
    · split <;> simp

theorem sp_free : ∀ p : List Nat, 47 ∉ p → sp p = [p]
  | [], _ => rfl
  | c :: r, h => by
    have hc : c ≠ 47 := fun e => h (by simp [e])
    have hr : 47 ∉ r := fun e => h (by simp [e])
    simp [sp, hc, sp_free r hr]

theorem sp_cut (q : List Nat) : ∀ p : List Nat, sp (p ++ 47 :: q) = sp p ++ sp q
  | [] => by simp [sp]
  | c :: r => by
    have ih := sp_cut q r
    by_cases hc : c = 47
    · simp [sp, hc, ih]
    · have hn := sp_ne r
      cases hs : sp r with
      | nil => exact absurd hs hn
      | cons x t => simp [sp, hc, ih, hs]

theorem sp_glue : ∀ ps : List (List Nat), ps ≠ [] → (∀ p ∈ ps, 47 ∉ p) → sp (glue ps) = ps
  | [], h, _ => absurd rfl h
  | [x], _, h => by simp [glue, sp_free x (h x (by simp))]
  | x :: y :: r, _, h => by
    have ih := sp_glue (y :: r) (by simp) (fun p hp => h p (by simp [hp]))
    rw [glue, sp_cut, ih, sp_free x (h x (by simp))]
    rfl

theorem glue_sp : ∀ l : List Nat, glue (sp l) = l
  | [] => rfl
  | c :: r => by
    have ih := glue_sp r
    have hn := sp_ne r
    cases hs : sp r with
    | nil => exact absurd hs hn
    | cons x t =>
      rw [hs] at ih
      by_cases hc : c = 47
      · simp [sp, hc, hs, glue, ih]
      · simp only [sp, hc, if_false, hs]
        cases t with
        | nil => simpa [glue] using ih
        | cons y t => simpa [glue] using ih

theorem glue_append : ∀ (ps qs : List (List Nat)), ps ≠ [] → qs ≠ [] → glue (ps ++ qs) = glue ps ++ 47 :: glue qs
  | [], _, h, _ => absurd rfl h
  | [x], [], _, h => absurd rfl h
  | [x], q :: r, _, _ => by simp [glue]
  | x :: y :: r, qs, _, hq => by
    have ih := glue_append (y :: r) qs (by simp) hq
    simp only [List.cons_append] at ih
    simp [glue, ih]

/-- b opens with p and a slash: the pieces of p are the first ones of b's, and b has more -/
theorem cut_iff (p b : List Nat) : (p ++ [47]) <+: b ↔ (sp b).take (sp p).length = sp p ∧ (sp p).length < (sp b).length := by
  constructor
  · rintro ⟨q, rfl⟩
    have e : p ++ [47] ++ q = p ++ 47 :: q := by simp
    rw [e, sp_cut]
    refine ⟨by simp, ?_⟩
    have := List.length_pos_iff.mpr (sp_ne q)
    simp; omega
  · rintro ⟨h1, h2⟩
    have e : sp b = sp p ++ (sp b).drop (sp p).length := by
      conv => lhs; rw [← List.take_append_drop (sp p).length (sp b), h1]
    have hd : (sp b).drop (sp p).length ≠ [] := by
      intro h
      have := congrArg List.length h
      simp at this
      omega
    have g := glue_sp b
    rw [e, glue_append _ _ (sp_ne p) hd, glue_sp] at g
    exact ⟨glue ((sp b).drop (sp p).length), by rw [List.append_assoc]; exact g⟩

theorem sp_mem : ∀ (l : List Nat) (x : List Nat), x ∈ sp l → ∀ c ∈ x, c ∈ l
  | [], x, hx, c, hc => by
    simp [sp] at hx
    subst hx
    simp at hc
  | d :: r, x, hx, c, hc => by
    have ih := sp_mem r
    unfold sp at hx
    split at hx
    · rcases List.mem_cons.mp hx with rfl | hx
      · simp at hc
      · exact List.mem_cons_of_mem _ (ih x hx c hc)
    · split at hx
      · simp at hx; subst hx; simp at hc; simp [hc]
      · rename_i h t hs
        rcases List.mem_cons.mp hx with rfl | hx
        · rcases List.mem_cons.mp hc with rfl | hc
          · simp
          · exact List.mem_cons_of_mem _ (ih h (by rw [hs]; simp) c hc)
        · exact List.mem_cons_of_mem _ (ih x (by rw [hs]; simp [hx]) c hc)

/-! The same on the model's texts. -/

def mkS (l : List Nat) : Str := ⟨l.toArray⟩
abbrev slash : Str := ⟨#[47]⟩

theorem join_cps : ∀ ps : List Str, (Str.join slash ps).cps.toList = glue (ps.map fun p => p.cps.toList)
  | [] => rfl
  | [x] => rfl
  | x :: y :: r => by
    have ih := join_cps (y :: r)
    show ((x ++ slash) ++ Str.join slash (y :: r)).cps.toList = _
    have e : ∀ a b : Str, (a ++ b).cps.toList = a.cps.toList ++ b.cps.toList := fun a b => by
      show (a.cps ++ b.cps).toList = _
      simp
    rw [e, e, ih]
    simp [glue]

theorem split_cps (x : Str) : (Txt.split x slash).map (fun p => p.cps.toList) = sp x.cps.toList := by
  have h1 := StrLaws.join_split x slash
  have h2 := StrLaws.split_free x 47
  have h3 := split_pos x slash
  have e := join_cps (Txt.split x slash)
  rw [h1] at e
  rw [e]
  refine (sp_glue _ ?_ ?_).symm
  · intro h
    have := congrArg List.length h
    simp at this
    rw [this] at h3
    simp at h3
  · intro p hp
    obtain ⟨q, hq, rfl⟩ := List.mem_map.mp hp
    exact h2 q hq

theorem split_eq (x : Str) : Txt.split x slash = (sp x.cps.toList).map mkS := by
  rw [← split_cps, List.map_map]
  have : (mkS ∘ fun p : Str => p.cps.toList) = id := by
    funext p
    rfl
  rw [this, List.map_id]

theorem mkS_inj {a b : List Nat} (h : mkS a = mkS b) : a = b := by
  have := congrArg (fun s : Str => s.cps.toList) h
  simpa [mkS] using this

theorem last_eq (x : Str) : (Txt.slice x (some (-1)) none == slash) = true ↔ ∃ p, x.cps.toList = p ++ [47] := by
  have e : Txt.slice x (some (-1)) none = mkS (x.cps.toList.drop (x.length - 1)) := by
    rw [slice_from_neg (by omega)]
    rw [slice_from_eq (b := x.length) (by omega) (by omega) rfl]
    unfold mkS
    congr 2
    have hm : (max 0 ((x.length : Int) + -1)).toNat = x.length - 1 := by omega
    rw [hm]
    refine List.take_of_length_le ?_
    have : x.cps.toList.length = x.length := by simp [Str.length]
    rw [List.length_drop, this]
    omega
  rw [e, beq_iff_eq]
  have hl : x.cps.toList.length = x.length := by simp [Str.length]
  constructor
  · intro h
    have h' : x.cps.toList.drop (x.length - 1) = [47] := mkS_inj (b := [47]) h
    exact ⟨x.cps.toList.take (x.length - 1), by
      conv => lhs; rw [← List.take_append_drop (x.length - 1) x.cps.toList, h']⟩
  · rintro ⟨p, hp⟩
    have hlen : x.length = p.length + 1 := by rw [← hl, hp]; simp
    rw [hp, hlen]
    simp [mkS, slash]

theorem starts_eq (x y : Str) : Txt.startswith x y = true ↔ y.cps.toList <+: x.cps.toList := by
  unfold Txt.startswith
  rw [StrLaws.subAt_eq]
  have hy : y.length = y.cps.toList.length := by simp [Str.length]
  rw [List.drop_zero, Bool.and_eq_true, decide_eq_true_eq, beq_iff_eq, hy]
  constructor
  · rintro ⟨_, h⟩
    exact ⟨x.cps.toList.drop y.cps.toList.length, by conv => rhs; rw [← List.take_append_drop y.cps.toList.length x.cps.toList, h]⟩
  · rintro ⟨q, h⟩
    have hx : x.length = x.cps.toList.length := by simp [Str.length]
    rw [hx, ← h]
    simp

/-- the covering path with its closing slash, as the function makes it -/
def withSlash (a : Str) : Str := if (Txt.slice a (some (-1)) none == slash) = true then a else a ++ slash
/-- its pieces, as the law makes them -/
def piecesOf (a : Str) : List Str := if (Txt.slice a (some (-1)) none == slash) = true then (Txt.split a slash).dropLast else Txt.split a slash

theorem both (a : Str) : ∃ p, (withSlash a).cps.toList = p ++ [47] ∧ piecesOf a = (sp p).map mkS := by
  unfold withSlash piecesOf
  by_cases h : (Txt.slice a (some (-1)) none == slash) = true
  · rw [if_pos h, if_pos h]
    obtain ⟨p, hp⟩ := (last_eq a).mp h
    refine ⟨p, hp, ?_⟩
    rw [split_eq, hp]
    have e := sp_cut [] p
    rw [e]
    simp [sp, mkS]
  · rw [if_neg h, if_neg h]
    refine ⟨a.cps.toList, ?_, split_eq a⟩
    show (a.cps ++ #[47]).toList = _
    simp

theorem map_mkS_inj : ∀ {a b : List (List Nat)}, a.map mkS = b.map mkS → a = b
  | [], [], _ => rfl
  | [], _ :: _, h => by simp at h
  | _ :: _, [], h => by simp at h
  | x :: a, y :: b, h => by
    simp only [List.map_cons, List.cons.injEq] at h
    rw [mkS_inj h.1, map_mkS_inj h.2]

/-- the law's heart: the two readings agree -/
theorem readings (a b : Str) : Txt.startswith b (withSlash a) =
    (decide ((Txt.split b slash).take (piecesOf a).length = piecesOf a) && decide ((piecesOf a).length < (Txt.split b slash).length)) := by
  obtain ⟨p, h1, h2⟩ := both a
  have hs : Txt.startswith b (withSlash a) = true ↔ (p ++ [47]) <+: b.cps.toList := by rw [starts_eq, h1]
  rw [Bool.eq_iff_iff, hs, cut_iff, h2, split_eq b, Bool.and_eq_true, decide_eq_true_eq, decide_eq_true_eq, List.length_map, List.length_map, ← List.map_take]
  constructor
  · rintro ⟨x, y⟩
    exact ⟨by rw [x], y⟩
  · rintro ⟨x, y⟩
    exact ⟨map_mkS_inj x, y⟩

theorem split_ok {x : Str} (h : PyData.strOk x = true) : ∀ t ∈ Txt.split x slash, PyData.strOk t = true := by
  intro t ht
  rw [split_eq] at ht
  obtain ⟨l, hl, rfl⟩ := List.mem_map.mp ht
  unfold PyData.strOk at h ⊢
  rw [Array.all_eq_true_iff_forall_mem] at h ⊢
  intro c hc
  refine h c ?_
  have : c ∈ l := by simpa [mkS] using hc
  exact Array.mem_toList_iff.mp (sp_mem _ l hl c this)
end Mine

namespace Mine

/-! Steps of the walk over lists of texts. -/

/-- a made list's items are these texts; few of them; each of them signs that are signs -/
structure Texts (vs : List Value) (ts : List Str) : Prop where
  are : StrsAre vs ts
  few : ts.length ≤ 1000
  ok : ∀ t ∈ ts, PyData.strOk t = true

theorem StrsAre.take' : ∀ {vs : List Value} {ts : List Str}, StrsAre vs ts → ∀ n, StrsAre (vs.take n) (ts.take n)
  | _, _, .nil, n => by simpa using StrsAre.nil
  | _, _, .cons y t h, 0 => by simpa using StrsAre.nil
  | _, _, .cons y t h, n + 1 => by simpa using StrsAre.cons y t (StrsAre.take' h n)

theorem Texts.length {vs : List Value} {ts : List Str} (h : Texts vs ts) : vs.length = ts.length := StrsAre.length h.are

theorem Texts.take {vs : List Value} {ts : List Str} (h : Texts vs ts) (n : Nat) : Texts (vs.take n) (ts.take n) :=
  ⟨StrsAre.take' h.are n, by have := h.few; rw [List.length_take]; omega, fun t ht => h.ok t (List.mem_of_mem_take ht)⟩

theorem pick_upto (vs : List Value) {y : Int} (h : 0 ≤ y) : slicePick vs.toArray none (some y) none = (vs.take y.toNat).toArray := by
  have e : sliceBounds none (some y) none vs.toArray.size = (((0 : Nat) : Int), ((min y.toNat vs.toArray.size : Nat) : Int), 1) := by
    simp only [sliceBounds, Option.getD_none, show (1 : Int) > 0 by decide, if_true, if_neg (show ¬ (y < 0) by omega)]
    congr 2
    omega
  rw [kmk_pick_nat _ e]
  show ((vs.drop 0).take (min y.toNat vs.toArray.size - 0)).toArray = _
  rw [List.drop_zero, Nat.sub_zero, List.size_toArray, kmk_take_min]

theorem pick_last (vs : List Value) : slicePick vs.toArray none (some (-1)) none = (vs.take (vs.length - 1)).toArray := by
  have e : sliceBounds none (some (-1)) none vs.toArray.size = (((0 : Nat) : Int), ((vs.toArray.size - 1 : Nat) : Int), 1) := by
    simp only [sliceBounds, Option.getD_none, show (1 : Int) > 0 by decide, if_true, if_pos (show (-1 : Int) < 0 by decide)]
    congr 2
    omega
  rw [kmk_pick_nat _ e]
  show ((vs.drop 0).take (vs.toArray.size - 1 - 0)).toArray = _
  rw [List.drop_zero, Nat.sub_zero, List.size_toArray]

theorem sameAll_strs : ∀ xs ys : List Str, PySem.Spec.sameAll (xs.map PyData.str) (ys.map PyData.str) = decide (xs = ys)
  | [], [] => by simp [PySem.Spec.sameAll]
  | [], _ :: _ => by simp [PySem.Spec.sameAll]
  | _ :: _, [] => by simp [PySem.Spec.sameAll]
  | a :: r, b :: t => by
    simp only [List.map_cons, PySem.Spec.sameAll, PySem.Spec.same, sameAll_strs r t]
    by_cases h : a = b <;> by_cases h' : r = t <;> simp [h, h']

theorem canLay_strs : ∀ ts : List Str, (∀ t ∈ ts, PyData.strOk t = true) → PyData.canLayAll0 (ts.map PyData.str) = true
  | [], _ => rfl
  | t :: r, h => by simp [PyData.canLayAll0, PyData.canLay0, canLay_strs r (fun t ht => h t (by simp [ht])), h t (by simp)]

theorem depth_strs : ∀ ts : List Str, PyData.depthAll (ts.map PyData.str) = 0
  | [] => rfl
  | _ :: r => by simp [PyData.depthAll, PyData.depth, depth_strs r]

theorem shaped_strs {ts : List Str} (h : ∀ t ∈ ts, PyData.strOk t = true) : SeqAt.shaped (.list (ts.map PyData.str)) = true := by
  simp [SeqAt.shaped, PyData.canLay0, PyData.depth, canLay_strs ts h, depth_strs]

theorem carried_strs : ∀ {vs : List Value} {ts : List Str}, StrsAre vs ts → CarriedAll vs (ts.map PyData.str)
  | _, _, .nil => .nil
  | _, _, .cons _ t r => .cons (.str _ t) (carried_strs r)

section
variable {prog : Program} {w : World} {A : Around} {E : Value → Shared → Prop} {s : Shared} {h₀ : Heap} {L l : Addr} {m : Str → Option Value} {news : List (Addr × Obj)} {vs us : List Value} {ts ys : List Str} {Q : Value → Shared → Prop}

theorem len_T {n : Nat} (N : News h₀ L s.heap news) (hm : (l, listOf vs.toArray n) ∈ news) (H : Texts vs ts)
    (h : Q (.int (ts.length : Int) (s.toks + 1)) { s with toks := s.toks + 1 + 1 }) : wpAny (model prog w) A (call (.builtin "len") [.ref l]) Q E s := by
  have e : vs.toArray.size = ts.length := by rw [List.size_toArray, H.length]
  have hf := H.few
  refine len_list (items := vs.toArray) (News.isList N hm) (by rw [e]; omega) ?_
  rw [e]
  exact h

theorem eq_T {a b : Addr} {n k : Nat} (N : News h₀ L s.heap news) (ha : (a, listOf vs.toArray n) ∈ news) (hb : (b, listOf us.toArray k) ∈ news) (Ha : Texts vs ts) (Hb : Texts us ys) (hu : A.units + 64 < cLine)
    (h : Q (.bool (decide (ts = ys))) s) : wpAny (model prog w) A (compareOp .Eq (.ref a) (.ref b)) Q E s :=
  eq_dataH_same (reads_newData (News.isList N ha) (carried_strs Ha.are)) (reads_newData (News.isList N hb) (carried_strs Hb.are)) (shaped_strs Ha.ok) (shaped_strs Hb.ok) hu
    (SeqAt.noMix_of_shape (.list .str) rfl _ _ (list_map_has fun _ => rfl) (list_map_has fun _ => rfl)) (by simp only [PySem.Spec.same]; rw [sameAll_strs]; exact h)

theorem split_T {x y : Str} {t u : Tok} (F : Fr h₀ L s.heap m) (N : News h₀ L s.heap news) (hy : y = slash) (hx : x.length ≤ 100) (hok : PyData.strOk x = true)
    (h : ∀ D vs h' k, Fr h₀ L h' m → News h₀ L h' ((D, listOf vs.toArray 0) :: news) → Texts vs (Txt.split x slash) → Q (.ref D) { s with heap := h', toks := k }) :
    wpAny (model prog w) A (call (.builtin "str.split") [.str x t, .str y u]) Q E s := by
  subst hy
  refine splitN1A F N rfl (fun l h' k e H _ _ F' N' => h _ (strValues l) h' k F' N' ⟨?_, ?_, split_ok hok⟩) (by rw [sizeLine_eq]; omega)
  · rw [← e]; exact H
  · have := split_le x slash; omega

theorem slice_T {value slice : PySem.Expr} {n : Nat} {y : Int} {us : Tok} (F : Fr h₀ L s.heap m) (N : News h₀ L s.heap news) (hm : (l, listOf vs.toArray n) ∈ news) (H : Texts vs ts) (h0 : 0 ≤ y)
    (h : ∀ D ws h', Fr h₀ L h' m → News h₀ L h' ((D, listOf ws.toArray 0) :: news) → Texts ws (ts.take y.toNat) → Q (.ref D) { s with heap := h' })
    (hs : subscripted slice false (.ref l) (.ref s.heap.objs.size) = operate [.ref s.heap.objs.size, .ref l] (getItem (.ref l) (.ref s.heap.objs.size))) (ht : ∀ r, letTemporaryGo value (.ref l) r = pure ()) :
    wpAny (model prog w) A (subscriptTail value slice (.ref l) (.ref s.heap.objs.size)) Q E { s with heap := s.heap.push { cls := .type "slice", data := .fields #[.none, .int y us, .none] } } := by
  refine kmk_slice (its := vs.toArray) (lo := none) (hi := some y) F N (News.isList N hm) .none (.int _ _) (fun D h' F' N' _ => h D (vs.take y.toNat) h' F' ?_ (H.take _)) hs ht ?_
  · rw [pick_upto vs h0] at N'; exact N'
  · rw [List.size_toArray, H.length, sizeLine_eq]; have := H.few; omega

theorem slice_L {value slice : PySem.Expr} {n : Nat} {us : Tok} (F : Fr h₀ L s.heap m) (N : News h₀ L s.heap news) (hm : (l, listOf vs.toArray n) ∈ news) (H : Texts vs ts)
    (h : ∀ D ws h', Fr h₀ L h' m → News h₀ L h' ((D, listOf ws.toArray 0) :: news) → Texts ws ts.dropLast → Q (.ref D) { s with heap := h' })
    (hs : subscripted slice false (.ref l) (.ref s.heap.objs.size) = operate [.ref s.heap.objs.size, .ref l] (getItem (.ref l) (.ref s.heap.objs.size))) (ht : ∀ r, letTemporaryGo value (.ref l) r = pure ()) :
    wpAny (model prog w) A (subscriptTail value slice (.ref l) (.ref s.heap.objs.size)) Q E { s with heap := s.heap.push { cls := .type "slice", data := .fields #[.none, .int (-1) us, .none] } } := by
  refine kmk_slice (its := vs.toArray) (lo := none) (hi := some (-1)) F N (News.isList N hm) .none (.int _ _) (fun D h' F' N' _ => h D (vs.take (vs.length - 1)) h' F' ?_ ?_) hs ht ?_
  · rw [pick_last vs] at N'; exact N'
  · rw [List.dropLast_eq_take, H.length]; exact H.take _
  · rw [List.size_toArray, H.length, sizeLine_eq]; have := H.few; omega
end
end Mine

namespace Mine
abbrev pairOf (x y : Value) (n : Nat) : Obj := { cls := .type "tuple", data := .seq #[x, y] n }
section
variable {prog : Program} {w : World} {A : Around} {E : Value → Shared → Prop} {s : Shared} {h₀ : Heap} {L : Addr} {m : Str → Option Value} {news : List (Addr × Obj)} {Q : Value → Shared → Prop}
theorem shaped_pair {p a : Str} (hp : PyData.strOk p = true) (ha : PyData.strOk a = true) : SeqAt.shaped (.tuple [.str p, .str a]) = true := by
  simp [SeqAt.shaped, PyData.canLay0, PyData.canLayAll0, PyData.depth, PyData.depthAll, hp, ha]
theorem reads_pair {h : Heap} {l : Addr} {p a : Str} {t u : Tok} {n : Nat} (e : h.get? l = some (pairOf (.str p t) (.str a u) n)) : Reads h (.ref l) (.tuple [.str p, .str a]) [] :=
  reads_newDataT (ys := [.str p t, .str a u]) ⟨_, e, rfl, n, rfl⟩ (.cons (.str _ _) (.cons (.str _ _) .nil))
theorem eq_P {x y : Addr} {p q a b : Str} {t u t' u' : Tok} {n k : Nat} (N : News h₀ L s.heap news) (hx : (x, pairOf (.str p t) (.str a u) n) ∈ news) (hy : (y, pairOf (.str q t') (.str b u') k) ∈ news)
    (op : PyData.strOk p = true) (oq : PyData.strOk q = true) (oa : PyData.strOk a = true) (ob : PyData.strOk b = true) (hu : A.units + 64 < cLine)
    (h : Q (.bool (decide (p = q) && (a == b))) s) : wpAny (model prog w) A (compareOp .Eq (.ref x) (.ref y)) Q E s := by
  refine eq_dataH_same (reads_pair (N _ hx).1) (reads_pair (N _ hy).1) (shaped_pair op oa) (shaped_pair oq ob) hu ?_ ?_
  · rfl
  · have e : PySem.Spec.same (.tuple [.str p, .str a]) (.tuple [.str q, .str b]) = (decide (p = q) && (a == b)) := by
      simp only [PySem.Spec.same, PySem.Spec.sameAll, Bool.and_true]
      by_cases h1 : p = q <;> by_cases h2 : a = b <;> simp [h1, h2]
    rw [e]
    exact h
end
end Mine

namespace Mine
section
variable {prog : Program} {w : World} {A : Around} {E : Value → Shared → Prop} {s : Shared} {h₀ : Heap} {L : Addr} {m : Str → Option Value} {news : List (Addr × Obj)} {Q : Value → Shared → Prop}

theorem leaf_newList {vs : List Value} (F : Fr h₀ L s.heap m)
    (h : Fr h₀ L (s.heap.push (W.listOf vs.toArray 0)) m → (s.heap.push (W.listOf vs.toArray 0)).IsList s.heap.objs.size vs.toArray → Q (.ref s.heap.objs.size) { s with heap := s.heap.push (W.listOf vs.toArray 0) }) (hsz : vs.length ≤ 100) :
    wpAny (model prog w) A (newList vs) Q E s :=
  wpAny_newObj_type (h (F.push _) ⟨_, Heap.get?_push_size _ rfl, rfl, 0, rfl⟩) (by show vs.toArray.size ≤ sizeLine; rw [List.size_toArray, sizeLine_eq]; omega)

theorem StrsAre.at' {vs : List Value} {ts : List Str} (h : StrsAre vs ts) {k : Nat} (hk : k < ts.length) : ∃ t, vs[k]? = some (.str (ts.getD k Str.empty) t) := by
  obtain ⟨t, ht⟩ := StrsAre.get h k ts[k] (List.getElem?_eq_getElem hk)
  exact ⟨t, by rw [ht]; simp [List.getD_eq_getElem?_getD, hk]⟩

theorem leaf_item {value slice : PySem.Expr} {l : Addr} {vs : List Value} {ts : List Str} {k : Int} {u : Tok} (hl : s.heap.IsList l vs.toArray) (hi : StrsAre vs ts) (h0 : 0 ≤ k) (hk : k < (ts.length : Int)) (h100 : ts.length ≤ 100)
    (h : ∀ t, Q (.str (ts.getD k.toNat Str.empty) t) s)
    (hs : subscripted slice false (.ref l) (.int k u) = operate [.ref l, .int k u] (getItem (.ref l) (.int k u))) (hg : ∀ r, letTemporaryGo value (.ref l) r = pure ()) :
    wpAny (model prog w) A (subscriptTail value slice (.ref l) (.int k u)) Q E s := by
  obtain ⟨t, ht⟩ := StrsAre.at' hi (k := k.toNat) (by omega)
  exact item_list hl h0 (by omega) (by simpa using ht) (h t) hs hg

theorem fmod6 (a : Int) : 0 ≤ a.fmod 6 ∧ a.fmod 6 < 6 := by
  rw [Int.fmod_eq_emod_of_nonneg a (by decide)]
  omega

theorem leaf_item6 {value slice : PySem.Expr} {l : Addr} {vs : List Value} {ts : List Str} {a : Int} {u : Tok} (hl : s.heap.IsList l vs.toArray) (hi : StrsAre vs ts) (h6 : ts.length = 6)
    (h : ∀ t, Q (.str (ts.getD (a.fmod 6).toNat Str.empty) t) s)
    (hs : subscripted slice false (.ref l) (.int (a.fmod 6) u) = operate [.ref l, .int (a.fmod 6) u] (getItem (.ref l) (.int (a.fmod 6) u))) (hg : ∀ r, letTemporaryGo value (.ref l) r = pure ()) :
    wpAny (model prog w) A (subscriptTail value slice (.ref l) (.int (a.fmod 6) u)) Q E s := by
  have hb := fmod6 a
  exact leaf_item hl hi hb.1 (by rw [h6]; omega) (by omega) h hs hg

theorem leaf_str {x : Str} {t : Tok} {u : Shared} {o : Obj} {tk : Nat} : SeqLeaf (Carried (.str x t) (.str x) ∧ Keeps u { u with heap := u.heap.push o, toks := tk }) :=
  ⟨.str _ _, _, _, rfl, fun _ _ e => Heap.get?_push_of_some _ e⟩
end
end Mine

namespace Mine
/-! Behind a generator expression the law's code record has one part more: the base heap is another one, alike but for that. -/
section
variable {p : Program} {loose : List Str} {mean : ExcName → Option Value} {mg mb m : Str → Option Value} {h₁ R : Heap} {c P a : Addr} {ps : Array Value}

theorem based_other (B : Based h₁ R c P ps) {o : Obj} (e : h₁.get? a = some o) (hd : ∀ q, o ≠ { cls := .none, data := .fields q }) : R.get? a = some o := by
  obtain ⟨ps₁, ht⟩ := B.tab₁
  have hne : a ≠ P := fun q => by
    rw [q, ht.2] at e
    exact hd ps₁ (Option.some.inj e).symm
  exact (B.same.2 a hne).trans e

theorem based_ns (B : Based h₁ R c P ps) (G : h₁.Ns a m) : R.Ns a m := by
  obtain ⟨o, es, ep, ho, hd, r⟩ := G
  refine ⟨o, es, ep, based_other B ho ?_, hd, r⟩
  intro q e
  rw [e] at hd
  cases hd

theorem based_in {K : Frag} (B : Based h₁ R c P ps) (X : K.In h₁) (G : h₁.Ns mainGlobals mg) (hK : kb_classed K = true) : K.In R := by
  intro a o e
  have ha := X a o e
  have q := List.all_eq_true.mp hK (a, o) (kb_mem e)
  simp only [Bool.or_eq_true, decide_eq_true_eq, beq_iff_eq] at q
  rcases q with (q | q) | q
  · exact based_other B ha fun z hz => q (by rw [hz])
  · have hne : a ≠ P := fun z => B.notStatics (z.symm.trans q)
    exact (B.same.2 a hne).trans ha
  · obtain ⟨o', es, ep, ho, hd, r⟩ := G
    rw [← q, ha] at ho
    cases ho
    exact based_other B ha fun z hz => by rw [hz] at hd; cases hd

def voidProg : Program := { PySem.Program.mk (main := { body := [.Import [⟨"sys", none, default⟩] default], scope := { kind := .module, names := [], isGenerator := false, isCoroutine := false, more := [] }, futureAnnotations := false, file := "", more := [] }) (modules := []) (parses := []) (absent := []) (harvested := []) (given := { argv := [], stdin := [], environ := none }) with }

theorem top_based (B : Based h₁ R c P ps) (T : Top p loose mean mg mb h₁) :
    Top voidProg (loose ++ (recsOf p).map (·.name) ++ (litsOf p).map (·.1) ++ (clssOf p loose).map (·.name)) mean mg mb R where
  g := based_ns B T.g
  b := based_ns B T.b
  nolimit := by
    obtain ⟨mc, h1, h2⟩ := T.nolimit
    exact ⟨mc, based_ns B h1, h2⟩
  nodigits := by
    obtain ⟨mc, h1, h2⟩ := T.nodigits
    exact ⟨mc, based_ns B h1, h2⟩
  fn := fun d hd => by cases hd
  own := fun d hd => by cases hd
  const := fun x d hd => by cases hd
  free := fun x h1 h2 _ _ _ => by
    simp only [List.mem_append, not_or] at h2
    exact T.free x h1 h2.1.1.1 h2.1.1.2 h2.1.2 h2.2
  builtins := T.builtins
  tab := fun d hd => by cases hd
  bmain := by
    obtain ⟨bm, ob, e1, e2, e3, e4, e5, e6⟩ := T.bmain
    exact ⟨bm, ob, e1, e2, based_other B e3 (fun q hq => by rw [hq] at e4; cases e4), e4, e5, e6⟩
  seer := fun h => by
    have : importsNone voidProg = false := by decide +kernel
    rw [this] at h
    cases h
end
end Mine

namespace Mine
/-- a text whose signs are signs, of at most n signs -/
structure Good (n : Nat) (x : Str) : Prop where
  few : x.length ≤ n
  ok : PyData.strOk x = true

theorem ok_append {x y : Str} (hx : PyData.strOk x = true) (hy : PyData.strOk y = true) : PyData.strOk (x ++ y) = true := by
  unfold PyData.strOk at hx hy ⊢
  show Array.all (x.cps ++ y.cps) _ = true
  rw [Array.all_append, hx, hy]
  rfl

theorem ok_empty : PyData.strOk Str.empty = true := by decide +kernel

theorem ok_join (e : Str) (he : PyData.strOk e = true) : ∀ ts : List Str, (∀ t ∈ ts, PyData.strOk t = true) → PyData.strOk (Str.join e ts) = true
  | [], _ => ok_empty
  | [x], h => h x (by simp)
  | x :: y :: r, h => by
    show PyData.strOk (x ++ e ++ Str.join e (y :: r)) = true
    exact ok_append (ok_append (h x (by simp)) he) (ok_join e he (y :: r) fun t ht => h t (by simp [ht]))

theorem sum_short : ∀ ts : List Str, (∀ t ∈ ts, t.length ≤ 2) → (ts.map (·.length)).sum ≤ 2 * ts.length
  | [], _ => by simp
  | t :: r, h => by
    have h1 := h t (by simp)
    have h2 := sum_short r fun t ht => h t (by simp [ht])
    simp only [List.map_cons, List.sum_cons, List.length_cons]
    omega

section
variable {prog : Program} {w : World} {A : Around} {E : Value → Shared → Prop} {s : Shared} {R : Heap} {L Kb a : Addr} {m : Str → Option Value} {news : List (Addr × Obj)} {Q : Value → Shared → Prop} {as : List Int} {pz : Int → Bool} {f : Int → Str}

theorem join_now {sep : Str} {t : Tok} (hsep : sep = Str.empty) (F : Fr R L s.heap m) (G : AllBare s.gens) (X : GenOnD prog w A Kb a as pz (fun k => .str (f k)) s) (hLK : L ≤ Kb) (has : as.length ≤ 8)
    (hf : ∀ k, Good 2 (f k)) (N : News R L s.heap news) (hle : ∀ p ∈ news, p.1 ≤ Kb)
    (h : ∀ s' t' path, Good 16 path → Fr R L s'.heap m → AllBare s'.gens → s'.os = s.os → News R L s'.heap news → Q (.str path t') s') :
    wpAny (model prog w) A (call (.builtin "str.join") [.str sep t, .ref a]) Q E s := by
  subst hsep
  have hlen : ((as.filter pz).map f).length ≤ 8 := by
    rw [List.length_map]
    exact Nat.le_trans (List.length_filter_le _ _) has
  have hall : ∀ x ∈ (as.filter pz).map f, Good 2 x := fun x hx => by
    obtain ⟨k, _, rfl⟩ := List.mem_map.mp hx
    exact hf k
  have hsum := sum_short _ fun x hx => (hall x hx).few
  have he : Str.empty.length = 0 := rfl
  refine join_genD F G X hLK (joinOk_of (by rw [he]; omega)) (fun s' t' F' G' os' hk => ?_) (by rw [sizeLine_eq]; omega)
  refine h s' t' _ ⟨?_, ?_⟩ F' G' os' (News.kept N hle hk)
  · show (Builtin.Str.glued Str.empty _).length ≤ 16
    rw [StrLaws.glued_eq_join]
    refine Nat.le_trans (StrLaws.join_length_le _ _) ?_
    rw [he]
    omega
  · show PyData.strOk (Builtin.Str.glued Str.empty _) = true
    rw [StrLaws.glued_eq_join]
    exact ok_join _ ok_empty _ fun x hx => (hall x hx).ok

end
theorem comp_end {h₀ h' : Heap} {L I C D : Addr} {m : Str → Option Value} {s₁ : Shared} {oI oC oD : Obj} {r : Str} {t : Tok} {tk : Nat} {news : List (Addr × Obj)} (F : Fr h₀ L h' m) (N : News h₀ L h' ((I, oI) :: (C, oC) :: (D, oD) :: news)) (off : LCg.Off3 I C D news) :
    LCg.CompEnd h₀ L m s₁ I oI C oC D oD (fun _ => True) (fun y news' => KCtEl news r y news') (.str r t) { s₁ with heap := h', toks := tk } :=
  LCg.CompEnd.intro F N news (fun _ hp => hp) off trivial (kct_el rfl rfl rfl)
def tab6 : List Str := [Str.ofString "/", Str.ofString "/a", Str.ofString "/b", Str.ofString "a", Str.ofString "//", Str.ofString "."]
theorem tab6_good (k : Nat) : Good 2 (tab6.getD k Str.empty) := by
  have h : ∀ x ∈ tab6, Good 2 x := by
    have : (tab6.all fun x => decide (x.length ≤ 2) && PyData.strOk x) = true := by decide +kernel
    intro x hx
    have := List.all_eq_true.mp this x hx
    simp only [Bool.and_eq_true, decide_eq_true_eq] at this
    exact ⟨this.1, this.2⟩
  rw [List.getD_eq_getElem?_getD]
  cases e : tab6[k]? with
  | none => exact ⟨by decide, ok_empty⟩
  | some x => exact h x (List.mem_of_getElem? e)
end Mine

namespace Mine
section
variable {prog : Program} {w : World} {A : Around} {E : Value → Shared → Prop} {s : Shared} {h₀ : Heap} {L : Addr} {m : Str → Option Value} {news : List (Addr × Obj)}

theorem add_T {a b : Addr} {us vs : List Value} {n k : Nat} {Q : Value → Shared → Prop} (F : Fr h₀ L s.heap m) (N : News h₀ L s.heap news) (ha : (a, W.listOf us.toArray n) ∈ news) (hb : (b, W.listOf vs.toArray k) ∈ news) (hl : us.length + vs.length ≤ 100)
    (h : ∀ D h', Fr h₀ L h' m → News h₀ L h' ((D, W.listOf (us ++ vs).toArray 0) :: news) → Q (.ref D) { s with heap := h' }) :
    wpAny (model prog w) A (binaryOp .Add (.ref a) (.ref b)) Q E s :=
  add_arrays (its := us.toArray) (its2 := vs.toArray) F N (News.isList N ha) (News.isList N hb) (fun h' F' N' => h _ h' F' N') (by rw [List.size_toArray, List.size_toArray, sizeLine_eq]; omega)

/-- a turn's end: it leaves, or the frame and the ledger are as they were but for two names -/
def TurnEnd (h₀ : Heap) (L : Addr) (x z : Str) (m₀ : Str → Option Value) (all : List (Addr × Obj)) (s : Shared) (Q : Flow → Shared → Prop) (f : Flow) (s₂ : Shared) : Prop :=
  match f with
  | .ret v => Q (.ret v) s₂
  | .brk => Q .next s₂
  | _ => ∃ h' tk' m', s₂ = { s with heap := h', toks := tk' } ∧ Fr h₀ L h' m' ∧ News h₀ L h' all ∧ ∀ y, y ≠ x → y ≠ z → m' y = m₀ y

theorem TurnEnd.go {x z : Str} {m₀ m' : Str → Option Value} {all all' : List (Addr × Obj)} {Q : Flow → Shared → Prop} {h' : Heap} {tk : Nat} (F : Fr h₀ L h' m') (N : News h₀ L h' all') (sub : ∀ p ∈ all, p ∈ all') (hm : ∀ y, y ≠ x → y ≠ z → m' y = m₀ y) :
    TurnEnd h₀ L x z m₀ all s Q .next { s with heap := h', toks := tk } := ⟨h', tk, m', rfl, F, fun p hp => N p (sub p hp), hm⟩

variable {env : Env} {x z : Str} {body : List Stmt} {Q : Flow → Shared → Prop}

theorem loop_T {l : Addr} {vs : List Value} {ts : List Str} {nn : Nat} {m₀ : Str → Option Value} (z : Str)
    (hh : A.handled = none) (hl : (l, W.listOf vs.toArray nn) ∈ news) (H : StrsAre vs ts) (F : Fr h₀ env.locals s.heap m₀) (N : News h₀ env.locals s.heap news)
    (turn : ∀ (a : Str) (t : Tok) (u : Str → Option Value) (h : Heap) (tk : Nat) (own : List (Addr × Obj)), a ∈ ts → Fr h₀ env.locals h (fun y => if y = x then some (.str a t) else if y = z then u y else m₀ y) → News h₀ env.locals h (news ++ own) →
      wpAny (model prog w) A (execs body env) (TurnEnd h₀ env.locals x z m₀ (news ++ own) s Q) E { s with heap := h, toks := tk })
    (done : ∀ (u : Str → Option Value) (h : Heap) (tk : Nat), Fr h₀ env.locals h (fun y => if y = x then u y else if y = z then u y else m₀ y) → News h₀ env.locals h news → Q .next { s with heap := h, toks := tk }) :
    wpAny (model prog w) A (pyIter (.ref l)) (fun it s₂ => LoopAtV prog w A h₀ env x body Q E it s₂) E s := by
  refine kdl_iter (fun _ m₁ news₁ => news₁ = news ∧ ∀ y, y ≠ x → y ≠ z → m₁ y = m₀ y) hh hl F N ⟨rfl, fun _ _ _ => rfl⟩ ?_ ?_
  · rintro i v m₁ news₁ h tk own hv hoff _ ⟨rfl, hm⟩ F₁ N₁
    have hlt : i < ts.length := by rw [← StrsAre.length H]; exact (List.getElem?_eq_some_iff.mp hv).1
    obtain ⟨t, ht⟩ := StrsAre.get H i ts[i] (List.getElem?_eq_getElem hlt)
    rw [hv] at ht
    cases ht
    have e : (fun y => if y = x then some (Value.str ts[i] t) else m₁ y) = fun y => if y = x then some (Value.str ts[i] t) else if y = z then m₁ y else m₀ y := by
      funext y
      by_cases h1 : y = x
      · simp [h1]
      · simp only [if_neg h1]
        by_cases h2 : y = z
        · simp [h2]
        · simp only [if_neg h2]; exact hm y h1 h2
    rw [e] at F₁
    refine wpAny_mono (turn ts[i] t m₁ h tk own (List.getElem_mem hlt) F₁ N₁) (fun f s₂ hp => ?_) fun _ _ e => e
    have fin : (∃ h' tk' m', s₂ = { s with heap := h', toks := tk' } ∧ Fr h₀ env.locals h' m' ∧ News h₀ env.locals h' (news₁ ++ own) ∧ ∀ y, y ≠ x → y ≠ z → m' y = m₀ y) →
        InvEndG h₀ env.locals (fun m' nx => (l, W.listOf vs.toArray nn) ∈ nx ∧ nx = news₁ ∧ ∀ y, y ≠ x → y ≠ z → m' y = m₀ y) own { s with heap := h, toks := tk } s₂ := by
      rintro ⟨h', tk', m', rfl, F', N', hm'⟩
      exact ⟨h', tk', m', news₁ ++ own, news₁, rfl, F', N', fun p hp => List.mem_append.mpr (.inl hp), fun p hp => List.mem_append.mpr (.inr hp), hoff, hl, rfl, hm'⟩
    cases f with
    | ret v => exact hp
    | brk => exact hp
    | next => exact fin hp
    | cont => exact fin hp
  · rintro m₁ news₁ h tk ⟨rfl, hm⟩ F₁ N₁
    refine done m₁ h tk ?_ N₁
    have e : (fun y => if y = x then m₁ y else if y = z then m₁ y else m₀ y) = m₁ := by
      funext y
      by_cases h1 : y = x
      · simp [h1]
      · simp only [if_neg h1]
        by_cases h2 : y = z
        · simp [h2]
        · simp only [if_neg h2]; exact (hm y h1 h2).symm
    rw [e]; exact F₁
end
end Mine

namespace Mine
theorem Good.slice {n : Nat} {x : Str} (h : Good n x) (l u : Option Int) : Good n (Txt.slice x l u) := by
  refine ⟨Nat.le_trans (PyProof.Txt.length_slice_le x l u) h.few, ?_⟩
  have hx := h.ok
  unfold PyData.strOk at hx ⊢
  rw [Array.all_eq_true_iff_forall_mem] at hx ⊢
  intro c hc
  unfold Txt.slice at hc
  split at hc
  · exact hx c hc
  · simp only [List.mem_toArray, List.mem_filterMap] at hc
    obtain ⟨i, _, hi⟩ := hc
    exact hx c (Array.mem_of_getElem? hi)

theorem four_good {t : Str} (h : t ∈ [Str.ofString "", Str.ofString "/", Str.ofString "/a", Str.ofString "/a/"]) : Good 16 t := by
  have : ([Str.ofString "", Str.ofString "/", Str.ofString "/a", Str.ofString "/a/"].all fun x => decide (x.length ≤ 16) && PyData.strOk x) = true := by decide +kernel
  have := List.all_eq_true.mp this t h
  simp only [Bool.and_eq_true, decide_eq_true_eq] at this
  exact ⟨this.1, this.2⟩

theorem StrsAre.app : ∀ {vs us : List Value} {ts ys : List Str}, StrsAre vs ts → StrsAre us ys → StrsAre (vs ++ us) (ts ++ ys)
  | _, _, _, _, .nil, h => h
  | _, _, _, _, .cons y t r, h => .cons y t (StrsAre.app r h)

theorem paths_good {path : Str} (hg : Good 16 path) {ks : List Int} {ys : List Value} (hc : CarriedAll ys (ks.map fun k => PyData.str (Txt.slice path none (some k)))) {t1 t2 t3 t4 : Tok} :
    ∃ ts, StrsAre ([.str (Str.ofString "") t1, .str (Str.ofString "/") t2, .str (Str.ofString "/a") t3, .str (Str.ofString "/a/") t4] ++ ys) ts ∧ ∀ t ∈ ts, Good 16 t := by
  refine ⟨[Str.ofString "", Str.ofString "/", Str.ofString "/a", Str.ofString "/a/"] ++ ks.map fun k => Txt.slice path none (some k), StrsAre.app (.cons _ _ (.cons _ _ (.cons _ _ (.cons _ _ .nil)))) hc.strsOf, ?_⟩
  intro t ht
  rcases List.mem_append.mp ht with h | h
  · exact four_good h
  · obtain ⟨k, _, rfl⟩ := List.mem_map.mp h
    exact hg.slice _ _
end Mine

namespace Mine
set_option maxHeartbeats 8000000 in
open_top hd for PySem.Challenge.rw_ki0111_01
end Mine

namespace Mine
def coversB (a b : Str) : Bool := if (a == b) = true then true else (decide ((Txt.split b slash).take (piecesOf a).length = piecesOf a) && decide ((piecesOf a).length < (Txt.split b slash).length))

theorem ofSlash : Str.ofString "/" = slash := by decide +kernel
section
variable {a b : Str}
theorem cov1 (h : (a == b) = true) : true = coversB a b := by unfold coversB; rw [if_pos h]
theorem cov2 (h : (a == b) = false) (h2 : (Txt.slice a (some (-1)) none == Str.ofString "/") = true) (h3 : List.take ((((Txt.split a slash).dropLast.length : Nat) : Int)).toNat (Txt.split b slash) = (Txt.split a slash).dropLast) :
    decide (((Txt.split a slash).dropLast.length : Int) < ((Txt.split b slash).length : Int)) = coversB a b := by
  unfold coversB piecesOf
  rw [ofSlash] at h2
  rw [if_neg (by rw [h]; decide), if_pos h2]
  rw [Int.toNat_natCast] at h3
  rw [decide_eq_true h3, Bool.true_and]
  simp only [Int.ofNat_lt]
theorem cov3 (h : (a == b) = false) (h2 : (Txt.slice a (some (-1)) none == Str.ofString "/") = true) (h3 : ¬ List.take ((((Txt.split a slash).dropLast.length : Nat) : Int)).toNat (Txt.split b slash) = (Txt.split a slash).dropLast) :
    decide (List.take ((((Txt.split a slash).dropLast.length : Nat) : Int)).toNat (Txt.split b slash) = (Txt.split a slash).dropLast) = coversB a b := by
  unfold coversB piecesOf
  rw [ofSlash] at h2
  rw [if_neg (by rw [h]; decide), if_pos h2]
  rw [Int.toNat_natCast] at h3 ⊢
  rw [decide_eq_false h3, Bool.false_and]
theorem cov4 (h : (a == b) = false) (h2 : (Txt.slice a (some (-1)) none == Str.ofString "/") = false) (h3 : List.take ((((Txt.split a slash).length : Nat) : Int)).toNat (Txt.split b slash) = (Txt.split a slash)) :
    decide (((Txt.split a slash).length : Int) < ((Txt.split b slash).length : Int)) = coversB a b := by
  unfold coversB piecesOf
  rw [ofSlash] at h2
  rw [if_neg (by rw [h]; decide), if_neg (by rw [h2]; decide)]
  rw [Int.toNat_natCast] at h3
  rw [decide_eq_true h3, Bool.true_and]
  simp only [Int.ofNat_lt]
theorem cov5 (h : (a == b) = false) (h2 : (Txt.slice a (some (-1)) none == Str.ofString "/") = false) (h3 : ¬ List.take ((((Txt.split a slash).length : Nat) : Int)).toNat (Txt.split b slash) = (Txt.split a slash)) :
    decide (List.take ((((Txt.split a slash).length : Nat) : Int)).toNat (Txt.split b slash) = (Txt.split a slash)) = coversB a b := by
  unfold coversB piecesOf
  rw [ofSlash] at h2
  rw [if_neg (by rw [h]; decide), if_neg (by rw [h2]; decide)]
  rw [Int.toNat_natCast] at h3 ⊢
  rw [decide_eq_false h3, Bool.false_and]
end
theorem units_ok {A : Around} {env : Env} (h : A.units + 100 < cLine) : (A.deeper env).units + 64 < cLine := by
  have e : (A.deeper env).units = A.units + 3 := rfl
  omega

local macro_rules | `(tactic| walk_at "call builtin:str.split") => `(tactic| (k_here; (with_reducible show wpAny _ _ (call (Value.builtin "str.split") [Value.str _ _, Value.str _ _]) _ _ _); k_dflt (refine' split_T ?F ?N ?y ?x ?o ?_; (case F => k_asm); (case N => k_asm); (case y => rfl); (case x => assumption); (case o => assumption); k_whole); intro D' vs' h' k' F' N' H'; (try k_sweep)))
local macro_rules | `(tactic| walk_at "subscriptTail Name Slice ref ref") => `(tactic| (k_here; k_dflt (refine' slice_L ?F ?N ?m ?H ?_ ?s ?t; (case F => k_asm); (case N => k_asm); (case m => k_mem); (case H => assumption); (case s => with_unfolding_all rfl); (case t => kmk_pure)); intro D' ws' h' F' N' H'; (try k_sweep)))
local macro_rules | `(tactic| walk_at "subscriptTail Name Slice ref ref") => `(tactic| (k_here; k_dflt (refine' slice_T ?F ?N ?m ?H ?z ?_ ?s ?t; (case F => k_asm); (case N => k_asm); (case m => k_mem); (case H => assumption); (case z => exact Int.natCast_nonneg _); (case s => with_unfolding_all rfl); (case t => kmk_pure)); intro D' ws' h' F' N' H'; (try k_sweep)))
local macro_rules | `(tactic| walk_at "call builtin:len") => `(tactic| (k_here; (with_reducible show wpAny _ _ (call (Value.builtin "len") [Value.ref _]) _ _ _); k_dflt (refine' len_T ?N ?m ?H ?_; (case N => k_asm); (case m => k_mem); (case H => assumption); k_whole)))
local macro_rules | `(tactic| walk_at "compareOp Eq ref ref") => `(tactic| (k_here; (with_reducible show wpAny _ _ (compareOp CmpOp.Eq (Value.ref _) (Value.ref _)) _ _ _); k_dflt (refine' eq_T ?N ?m ?k ?H ?J ?u ?_; (case N => k_asm); (case m => k_mem); (case k => k_mem); (case H => assumption); (case J => assumption); (case u => exact units_ok (by assumption)); k_whole)))

set_option maxRecDepth 100000 in
set_option maxHeartbeats 8000000 in
theorem covers_call (w : World) {p : Program} {loose : List Str} {mean : ExcName → Option Value} {mg mb : Str → Option Value} {news : List (Addr × Obj)} (a b : Str) (ta tb : Tok)
   {dp un : Nat} {gd : Option (List Code)} {cn : Str} {cs : Scope} {aF : Addr} {ccd : Value} {cl : List (Str × Addr)} {outer : List Env} {A₀ : Around} {base h₀ : Heap} {L : Addr} {m : Str → Option Value} {s : Shared} {Q E : Value → Shared → Prop}
   (B : Below A₀ base outer h₀) (F : Fr h₀ L s.heap m) (X : (hd.heap_39 w.params).In h₀) (N : News h₀ L s.heap news) (T : Top p loose mean mg mb h₀) (hk : cs.kind = .function)
   (hdp : dp + 1 < recursionLimit) (hun : un + 100 < cLine) (la : a.length ≤ 100) (lb : b.length ≤ 100) (oa : PyData.strOk a = true) (ob : PyData.strOk b = true)
   (hret : CbRet h₀ L m news s Q (fun _ => .bool (coversB a b))) :
   wpAny (model PySem.Challenge.rw_ki0111_01.row.prog w) (ktrTop dp un gd cn cs L aF ccd cl outer) (call (.ref 78) [.str a ta, .str b tb]) Q E s := by
  w_top off
  revert X; k_fill; intro X
  dsimp only [CbRet] at hret
  refine wpAny_call ?_
  k_dflt cell_enter
  k_steps
  all_goals exact cb_retB (Q := Q) hret (by with_reducible first
    | exact cov1 (by assumption)
    | exact cov2 (by assumption) (by assumption) (by assumption)
    | exact cov3 (by assumption) (by assumption) (by assumption)
    | exact cov4 (by assumption) (by assumption) (by assumption)
    | exact cov5 (by assumption) (by assumption) (by assumption)) (by assumption) (by first | (with_reducible assumption) | exact cb_drop (by assumption) (by intro q hq; (repeat (first | exact hq | apply List.Mem.tail))))
end Mine

namespace Mine
def suburiB (a b : Str) : Bool := if (a == b) = true then true else Txt.startswith b (withSlash a)

section
variable {a b : Str}
theorem hh_eq {a b : Str} {c : Bool} (h : (decide (Str.ofString "h" = Str.ofString "h") && (a == b)) = c) : (a == b) = c := by
  rw [decide_eq_true rfl, Bool.true_and] at h
  exact h
theorem sub1 (h : (decide (Str.ofString "h" = Str.ofString "h") && (a == b)) = true) : true = suburiB a b := by
  unfold suburiB; rw [if_pos (hh_eq h)]
theorem sub2 (h : (decide (Str.ofString "h" = Str.ofString "h") && (a == b)) = false) (h2 : (Txt.slice a (some (-1)) none != Str.ofString "/") = true) : Txt.startswith b (a ++ Str.ofString "/") = suburiB a b := by
  unfold suburiB withSlash
  rw [ofSlash] at h2 ⊢
  rw [if_neg (by rw [hh_eq h]; decide), if_neg]
  intro h3
  rw [bne, h3] at h2
  cases h2
theorem sub3 (h : (decide (Str.ofString "h" = Str.ofString "h") && (a == b)) = false) (h2 : (Txt.slice a (some (-1)) none != Str.ofString "/") = false) : Txt.startswith b a = suburiB a b := by
  unfold suburiB withSlash
  rw [ofSlash] at h2
  rw [if_neg (by rw [hh_eq h]; decide), if_pos]
  rw [bne, Bool.not_eq_false'] at h2
  exact h2
theorem oth1 (h : (decide (Str.ofString "h" = Str.ofString "h:80") && (a == b)) = true) : true = false := by
  have e : decide (Str.ofString "h" = Str.ofString "h:80") = false := by decide +kernel
  rw [e] at h
  exact h.symm
end
local macro_rules | `(tactic| walk_at "compareOp Eq ref ref") => `(tactic| (k_here; (with_reducible show wpAny _ _ (compareOp CmpOp.Eq (Value.ref _) (Value.ref _)) _ _ _); k_dflt (refine' eq_P ?N ?m ?k ?o1 ?o2 ?o3 ?o4 ?u ?_; (case N => k_asm); (case m => k_mem); (case k => k_mem); (case o1 => decide +kernel); (case o2 => decide +kernel); (case o3 => assumption); (case o4 => assumption); (case u => exact units_ok (by assumption)); k_whole)))

set_option maxRecDepth 100000 in
set_option maxHeartbeats 8000000 in
theorem suburi_call (w : World) {p : Program} {loose : List Str} {mean : ExcName → Option Value} {mg mb : Str → Option Value} {news : List (Addr × Obj)} (a b : Str) (x y z : Addr) (t1 t2 t3 t4 : Tok) (n1 n2 : Nat)
   {dp un : Nat} {gd : Option (List Code)} {cn : Str} {cs : Scope} {aF : Addr} {ccd : Value} {cl : List (Str × Addr)} {outer : List Env} {A₀ : Around} {base h₀ : Heap} {L : Addr} {m : Str → Option Value} {s : Shared} {Q E : Value → Shared → Prop}
   (B : Below A₀ base outer h₀) (F : Fr h₀ L s.heap m) (X : (hd.heap_39 w.params).In h₀) (N : News h₀ L s.heap ((z, pairOf (.str (Str.ofString "h") t3) (.str b t4) n2) :: (y, pairOf (.str (Str.ofString "h") t1) (.str a t2) n1) :: news)) (T : Top p loose mean mg mb h₀) (hk : cs.kind = .function)
   (hdp : dp + 1 < recursionLimit) (hun : un + 100 < cLine) (la : a.length ≤ 100) (lb : b.length ≤ 100) (oa : PyData.strOk a = true) (ob : PyData.strOk b = true)
   (hret : CbRet h₀ L m news s Q (fun _ => .bool (suburiB a b))) :
   wpAny (model PySem.Challenge.rw_ki0111_01.row.prog w) (ktrTop dp un gd cn cs L aF ccd cl outer) (call (.ref 64) [.ref x, .ref y, .ref z]) Q E s := by
  w_top off
  revert X; k_fill; intro X
  dsimp only [CbRet] at hret
  refine wpAny_call ?_
  k_dflt cell_enter
  k_steps
  all_goals exact cb_retB (Q := Q) hret (by with_reducible first
    | exact sub1 (by assumption)
    | exact sub2 (by assumption) (by assumption)
    | exact sub3 (by assumption) (by assumption)) (by assumption) (by first | (with_reducible assumption) | exact cb_drop (by assumption) (by intro q hq; (repeat (first | exact hq | apply List.Mem.tail))))

set_option maxRecDepth 100000 in
set_option maxHeartbeats 8000000 in
theorem other_call (w : World) {p : Program} {loose : List Str} {mean : ExcName → Option Value} {mg mb : Str → Option Value} {news : List (Addr × Obj)} (a b : Str) (x y z : Addr) (t1 t2 t3 t4 : Tok) (n1 n2 : Nat)
   {dp un : Nat} {gd : Option (List Code)} {cn : Str} {cs : Scope} {aF : Addr} {ccd : Value} {cl : List (Str × Addr)} {outer : List Env} {A₀ : Around} {base h₀ : Heap} {L : Addr} {m : Str → Option Value} {s : Shared} {Q E : Value → Shared → Prop}
   (B : Below A₀ base outer h₀) (F : Fr h₀ L s.heap m) (X : (hd.heap_39 w.params).In h₀) (N : News h₀ L s.heap ((z, pairOf (.str (Str.ofString "h:80") t3) (.str b t4) n2) :: (y, pairOf (.str (Str.ofString "h") t1) (.str a t2) n1) :: news)) (T : Top p loose mean mg mb h₀) (hk : cs.kind = .function)
   (hdp : dp + 1 < recursionLimit) (hun : un + 100 < cLine) (oa : PyData.strOk a = true) (ob : PyData.strOk b = true)
   (hret : CbRet h₀ L m news s Q (fun _ => .bool false)) :
   wpAny (model PySem.Challenge.rw_ki0111_01.row.prog w) (ktrTop dp un gd cn cs L aF ccd cl outer) (call (.ref 64) [.ref x, .ref y, .ref z]) Q E s := by
  w_top off
  revert X; k_fill; intro X
  dsimp only [CbRet] at hret
  refine wpAny_call ?_
  k_dflt cell_enter
  k_steps
  all_goals exact cb_retB (Q := Q) hret (by with_reducible first
    | rfl
    | exact oth1 (by assumption)) (by assumption) (by first | (with_reducible assumption) | exact cb_drop (by assumption) (by intro q hq; (repeat (first | exact hq | apply List.Mem.tail))))
end Mine

namespace Mine
def lawBody : List Stmt := match PySem.Challenge.pw_ki0111_01.main.body.drop 5 with
  | [.FunctionDef _ _ b _ _ _ _ _ _ _] => b
  | _ => []
def lawScope : Scope := match PySem.Challenge.pw_ki0111_01.main.body.drop 5 with
  | [.FunctionDef _ _ _ _ _ _ sc _ _ _] => sc
  | _ => default
abbrev lawEnv (L fa : Addr) (cdv : Value) : Env := envOfC (Str.ofString "law") lawScope L fa cdv

local macro_rules | `(tactic| walk_at "eval ListComp") => `(tactic| (k_here; k_dflt (refine LCg.ListComp_U (F₀ := by k_asm) (by with_unfolding_all rfl) (by decide) (by rfl) (by decide) (by rfl) ?_)))

theorem same_answer (a b : Str) : suburiB a b = coversB a b := by
  unfold suburiB coversB
  rw [readings]

set_option maxRecDepth 100000 in
set_option maxHeartbeats 8000000 in
theorem rest (w : World) {p : Program} {loose : List Str} {mean : ExcName → Option Value} {mg mb : Str → Option Value} {R : Heap} {L fa x d e : Addr} {cdv : Value} {oc : Obj} {hs : Int} {tk0 t : Tok} {v0 : Option Value} {m₀ : Str → Option Value} {s : Shared} {Q : Flow → Shared → Prop} {path : Str}
    (B : Below callerA R [] R) (X : (hd.heap_39 w.params).In R) (T : Top p loose mean mg mb R)
    (F : Fr R L s.heap (fun y => if y = Str.ofString "manager" then some (.ref x) else m₀ y))
    (N : News R L s.heap [(x, instObj 67 d), (d, dictOf [⟨hs, .str (Str.ofString "passwd") tk0, .ref e⟩] 1), (L + 1, oc)])
    (hc : oc.data = .cell v0) (l1 : L + 1 < d) (l2 : d < x) (hg : Good 16 path)
    (hQ : ∀ h' tk m', Fr R L h' m' → Q (.ret (.bool true)) { s with heap := h', toks := tk }) :
    wpAny (model PySem.Challenge.rw_ki0111_01.row.prog w) (callerA.deeper (lawEnv L fa cdv)) (storeName (lawEnv L fa cdv) (Str.ofString "path") (.str path t))
      (fun _ s' => wpAny (model PySem.Challenge.rw_ki0111_01.row.prog w) (callerA.deeper (lawEnv L fa cdv)) (execs (lawBody.drop 2) (lawEnv L fa cdv)) Q (fun _ _ => False) s') (fun _ _ => False) s := by
  w_top off
  revert X; k_fill; intro X
  have hp16 : path.length ≤ 16 := hg.few
  dsimp only [lawEnv, lawBody, lawScope, PySem.Challenge.pw_ki0111_01, List.drop]
  walk1
  rename News _ _ _ _ => N1
  simp only [List.cons_append, List.nil_append] at N1
  try dsimp only
  repeat' ((fail_if_success (with_reducible show LCg.CompSrc _ _ _ _ _ _ _ _ _ _ _ _ _ _)); (first | (k_unfold; (try dsimp only)) | (k_end; wrow_close) | walk1 | (dsimp only; walk1) | (leave1; walk_say "STEP leave1"; try dsimp only) | fail "no step"))
  k_dflt (refine LCg.CompSrc.range (by rfl) (by k_asm) (by k_asm) (by assumption) (by exact small_one (by kcf_bnd) (by kcf_bnd) (by kcf_bnd) (by kcf_bnd)) (by exact rangeSize_nat _ _) (by rw [PySem.sizeLine_eq]; omega) ?_)
  intro g'
  refine kct_range (fun k => Txt.slice path none (some k)) ?turn ?fin
  case turn =>
    intro k' t' I' oI' C' oC' D' m' ys' h' tk' E' hlo' hhi' hC' hx' F' N' off' ne' hMark'
    repeat' ((fail_if_success (with_reducible show LCg.CompEnd _ _ _ _ _ _ _ _ _ _ _ _ _ _)); (first | (k_unfold; (try dsimp only)) | (k_end; wrow_close) | walk1 | (dsimp only; walk1) | (leave1; walk_say "STEP leave1"; try dsimp only) | fail "no step"))
    exact comp_end (by assumption) (by assumption) off'
  unfold KPfDone
  intro ys hcy hly
  unfold LCg.FinE
  intro D' h' tk' F' N' o1'
  dsimp only
  obtain ⟨ts, hts, hgd⟩ := paths_good (t1 := s.toks) (t2 := s.toks + 1) (t3 := s.toks + 1 + 1) (t4 := s.toks + 1 + 1 + 1) hg hcy
  have hy16 : ys.length ≤ 16 := by
    have e := StrsAre.length hcy.strsOf
    rw [List.length_map, hly] at e
    omega
  refine add_T (us := [.str (Str.ofString "") s.toks, .str (Str.ofString "/") (s.toks + 1), .str (Str.ofString "/a") (s.toks + 1 + 1), .str (Str.ofString "/a/") (s.toks + 1 + 1 + 1)]) (vs := ys) F' N' (by k_dflt k_mem) (by k_dflt k_mem) (by show 4 + ys.length ≤ 100; omega) ?_
  generalize [Value.str (Str.ofString "") s.toks, .str (Str.ofString "/") (s.toks + 1), .str (Str.ofString "/a") (s.toks + 1 + 1), .str (Str.ofString "/a/") (s.toks + 1 + 1 + 1)] ++ ys = vs at hts ⊢
  intro P h2 F2 N2
  replace N2 := cb_drop (news := [(P, W.listOf vs.toArray 0), (x, instObj 67 d), (d, dictOf [⟨hs, .str (Str.ofString "passwd") tk0, .ref e⟩] 1)]) N2 (by intro q hq; simp only [List.mem_cons, List.not_mem_nil, or_false] at hq ⊢; rcases hq with h | h | h <;> simp [h])
  clear N' F' o1' hcy hly hy16
  dsimp only
  repeat' ((fail_if_success (with_reducible show wpAny _ _ (exec (Stmt.For _ _ _ _ _) _) _ _ _)); (first | (k_unfold; (try dsimp only)) | (k_end; wrow_close) | walk1 | (dsimp only; walk1) | (leave1; walk_say "STEP leave1"; try dsimp only) | fail "no step"))
  rename Fr _ _ _ _ => F3
  rename News _ _ _ _ => N3
  with_unfolding_all refine For_invVF F3 rfl rfl ?_
  k_dflt walk1
  refine loop_T (Str.ofString "below") rfl (by k_dflt k_mem) hts F3 N3 ?turn ?done
  case turn =>
    intro a ta u h4 tk4 own ha F4 N4
    clear F3 N3
    have hga := hgd a ha
    simp only [List.cons_append, List.nil_append] at N4
    repeat' ((fail_if_success (with_reducible show wpAny _ _ (exec (Stmt.For _ _ _ _ _) _) _ _ _)); (first | (k_unfold; (try dsimp only)) | (k_end; wrow_close) | walk1 | (dsimp only; walk1) | (leave1; walk_say "STEP leave1"; try dsimp only) | fail "no step"))
    rename Fr _ _ _ _ => F5
    rename News _ _ _ _ => N5
    with_unfolding_all refine For_invVF F5 rfl rfl ?_
    k_dflt walk1
    refine loop_T (Str.ofString "below") rfl (by k_dflt k_mem) hts F5 N5 ?turn2 ?done2
    case turn2 =>
      intro b tb u2 h6 tk6 own2 hb F6 N6
      clear F5 N5
      have hgb := hgd b hb
      simp only [List.cons_append, List.nil_append] at N6
      repeat' ((fail_if_success (with_reducible show wpAny _ _ (call (Value.ref _) _) _ _ _)); (first | (k_unfold; (try dsimp only)) | (k_end; wrow_close) | walk1 | (dsimp only; walk1) | (leave1; walk_say "STEP leave1"; try dsimp only) | fail "no step"))
      rename Fr _ _ _ _ => F7
      rename News _ _ _ _ => N7
      refine suburi_call w a b _ _ _ _ _ _ _ _ _ B F7 X N7 T rfl (by decide) (by decide) (by have := hga.few; omega) (by have := hgb.few; omega) hga.ok hgb.ok ?_
      intro _ h8 tk8 F8 N8
      clear F7 N7
      dsimp only
      repeat' ((fail_if_success (with_reducible show wpAny _ _ (call (Value.ref _) _) _ _ _)); (first | (k_unfold; (try dsimp only)) | (k_end; wrow_close) | walk1 | (dsimp only; walk1) | (leave1; walk_say "STEP leave1"; try dsimp only) | fail "no step"))
      refine covers_call w a b _ _ B F8 X N8 T rfl (by decide) (by decide) (by have := hga.few; omega) (by have := hgb.few; omega) hga.ok hgb.ok ?_
      intro _ h9 tk9 F9 N9
      clear F8 N8
      rw [same_answer a b]
      dsimp only
      (first | (k_unfold; (try dsimp only)) | (k_end; wrow_close) | walk1 | (dsimp only; walk1) | (leave1; walk_say "STEP leave1"; try dsimp only) | fail "no step")
      rw [bne_self_eq_false]
      repeat' ((fail_if_success (with_reducible show TurnEnd _ _ _ _ _ _ _ _ _ _)); (first | (k_unfold; (try dsimp only)) | (k_end; wrow_close) | walk1 | (dsimp only; walk1) | (leave1; walk_say "STEP leave1"; try dsimp only) | fail "no step"))
      exact TurnEnd.go F9 N9 (fun _ hp => hp) (fun y h1 h2 => by simp only [if_neg h1])
    case done2 =>
      intro u2 h6 tk6 F6 N6
      clear F5 N5
      have la16 := hga.few
      repeat' ((fail_if_success (with_reducible show wpAny _ _ (call (Value.ref _) _) _ _ _)); (first | (k_unfold; (try dsimp only)) | (k_end; wrow_close) | walk1 | (dsimp only; walk1) | (leave1; walk_say "STEP leave1"; try dsimp only) | fail "no step"))
      rename Fr _ _ _ _ => F7
      rename News _ _ _ _ => N7
      refine other_call w a _ _ _ _ _ _ _ _ _ _ B F7 X N7 T rfl (by decide) (by decide) hga.ok (ok_append hga.ok (by decide +kernel)) ?_
      intro _ h8 tk8 F8 N8
      clear F7 N7
      dsimp only
      repeat' ((fail_if_success (with_reducible show TurnEnd _ _ _ _ _ _ _ _ _ _)); (first | (k_unfold; (try dsimp only)) | (k_end; wrow_close) | walk1 | (dsimp only; walk1) | (leave1; walk_say "STEP leave1"; try dsimp only) | fail "no step"))
      exact TurnEnd.go F8 N8 (fun _ hp => hp) (fun y h1 h2 => by simp only [if_neg h1, if_neg h2])
  case done =>
    intro u h4 tk4 F4 N4
    clear F3 N3
    repeat' ((fail_if_success (with_reducible show Q _ _)); (first | (k_unfold; (try dsimp only)) | (k_end; wrow_close) | walk1 | (dsimp only; walk1) | (leave1; walk_say "STEP leave1"; try dsimp only) | fail "no step"))
    exact hQ _ _ _ F4
end Mine

namespace Mine
theorem classed (P : Params) : kb_classed (hd.heap_39 P) = true := by kernel_rfl
local macro_rules | `(tactic| walk_at "newList") => `(tactic| (lge_here; with_unfolding_all refine leaf_newList (by assumption) ?_ (Nat.le_of_ble_eq_true rfl); intro F' hl'))
local macro_rules | `(tactic| walk_at "subscriptTail") => `(tactic| (lge_here; (with_reducible show wpAny _ _ (subscriptTail (PySem.Expr.Name _ _) _ (Value.ref _) (Value.int (Int.fmod _ _) _)) _ _ _); with_unfolding_all refine leaf_item6 (by assumption) (StrsAre.cons _ _ (StrsAre.cons _ _ (StrsAre.cons _ _ (StrsAre.cons _ _ (StrsAre.cons _ _ (StrsAre.cons _ _ StrsAre.nil)))))) rfl ?_ (by with_unfolding_all rfl) (by intro _; with_unfolding_all rfl); intro t'))
local macro_rules | `(tactic| walk_at "SeqLeaf") => `(tactic| ((with_reducible show SeqLeaf (Carried (Value.str _ _) _ ∧ Keeps _ _)); with_unfolding_all exact leaf_str))
set_option maxRecDepth 100000 in
set_option maxHeartbeats 8000000 in
theorem main : PySem.Challenge.rw_ki0111_01.Holds := by
  refine hd ?_
  lge_go0; (all_goals try k_fold)
  repeat' ((fail_if_success (with_reducible show wpAny _ _ (call (Value.builtin "str.join") _) _ _ _)); (first | (k_unfold; (try dsimp only)) | (lge_end; wrow_closeG) | walk1 | (dsimp only; walk1) | (leave1; walk_say "STEP leave1"; try dsimp only) | wrow_closeG | fail "no step"))
  rename GenOnD _ _ _ _ _ _ _ _ _ => X'
  rename Fr _ _ _ _ => F'
  rename News _ _ _ _ => N'
  rename Based _ _ _ _ _ => B'
  refine join_now (f := fun k => tab6.getD (Int.fmod k 6).toNat Str.empty) (by decide +kernel) F' (by assumption) X' (by assumption) (by simp only [List.length_take]; omega) (fun k => tab6_good _) N' (by assumption) ?_
  have kX := based_in B' (by assumption) (Top.g (by assumption)) (classed _)
  have T' := top_based B' (by assumption)
  clear X' N' F'
  intro s' t' path hgood F' G' hos N'
  refine wpAny_mono (rest _ (by assumption) kX T' F' (cb_drop N' (fun q hq => List.Mem.tail _ (List.Mem.tail _ hq))) (by assumption) (by assumption) (by assumption) hgood ?_) (fun _ s'' h => wpAny_mono h (fun f s3 hq => hq) (fun _ _ x => x.elim)) (fun _ _ x => x.elim)
  intro h' tk m' F''
  have hos2 := hos.trans (by assumption)
  dsimp only at hos2
  dsimp only
  wrow_closeG
end Mine

theorem PySem.Challenge.cw_ki0111_01_holds : PySem.Challenge.rw_ki0111_01.Holds :=
  Mine.main
