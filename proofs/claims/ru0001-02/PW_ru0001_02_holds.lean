import PyProof.Rows.All
import Wide.All
import OpenK.AllK
import Wide.FinOn
import Lean
import PySem.Challenge.RW_ru0001_02
set_option Elab.async false
set_option maxRecDepth 100000
set_option linter.unusedVariables false
namespace Mine
open PySem PySem.Sem PyProof PySem.W PyProof.Rows PyProof.V PySem.Spec

def okC : List Nat := [59, 65, 97, 98, 65535, 65536]
def okT (x : Str) : Prop := ∀ n ∈ x.cps.toList, n ∈ okC
def signs : List Str := [Str.ofString ";", Str.ofString "A", Str.ofString "a", Str.ofString "b", Str.ofString "\uffff", Str.ofString "𐀀"]

structure BookOk (c : List (Str × Int)) : Prop where
  nodup : (c.map (·.1)).Nodup
  ok : ∀ p ∈ c, okT p.1 ∧ p.1.length ≤ 4

theorem okT_append {x y : Str} (hx : okT x) (hy : okT y) : okT (x ++ y) := by
  intro n hn
  rw [Str.cps_append, Array.toList_append] at hn
  rcases List.mem_append.mp hn with h | h
  · exact hx n h
  · exact hy n h
theorem okT_empty : okT (Str.ofString "") := by
  intro n hn
  have : (Str.ofString "").cps.toList = [] := by decide +kernel
  rw [this] at hn; cases hn
theorem len_empty : (Str.ofString "").length = 0 := by decide +kernel
theorem signs_cps : ∀ x ∈ signs, ∃ n ∈ okC, x.cps.toList = [n] := by
  have h : (signs.all fun x => okC.any fun n => decide (x.cps.toList = [n])) = true := by decide +kernel
  intro x hx
  have := List.all_eq_true.mp h x hx
  obtain ⟨n, hn, e⟩ := List.any_eq_true.mp this
  exact ⟨n, hn, of_decide_eq_true e⟩
theorem sign_mem {i : Nat} (h : i < 6) : signs.getD i Str.empty ∈ signs := by
  have e : signs.getD i Str.empty = signs[i]'(by simpa [signs] using h) := by
    simp [List.getD_eq_getElem?_getD, List.getElem?_eq_getElem (show i < signs.length by simpa [signs] using h)]
  rw [e]; exact List.getElem_mem _
theorem sign_okT {x : Str} (h : x ∈ signs) : okT x := by
  obtain ⟨n, hn, e⟩ := signs_cps x h
  intro k hk
  rw [e] at hk
  rw [List.mem_singleton.mp hk]; exact hn
theorem sign_len {x : Str} (h : x ∈ signs) : x.length = 1 := by
  obtain ⟨n, hn, e⟩ := signs_cps x h
  show x.cps.size = 1
  rw [← Array.length_toList, e]; rfl

/-- the text's loop -/
structure TxtInv (pre : List Int) (n : Int) (t : Str) : Prop where
  len : t.length = pre.length
  ok : okT t
theorem TxtInv.nil {n : Int} : TxtInv [] n (Str.ofString "") := ⟨by rw [len_empty]; rfl, okT_empty⟩
theorem TxtInv.step {pre : List Int} {n n' k : Int} {t x : Str} (h : TxtInv pre n t) (hx : x ∈ signs) : TxtInv (pre ++ [k]) n' (t ++ x) :=
  ⟨by rw [Str.length_append, h.len, sign_len hx, List.length_append]; rfl, okT_append h.ok (sign_okT hx)⟩

/-- the book's loop -/
structure BkInv (pre : List Int) (c : List (Str × Int)) : Prop where
  len : c.length ≤ pre.length
  ok : BookOk c
theorem BkInv.nil : BkInv [] [] := ⟨Nat.le_refl _, ⟨List.nodup_nil, fun _ h => nomatch h⟩⟩
theorem kdpPut_keys (c : List (Str × Int)) (k : Str) (v : Int) : (kdpPut c k v).map (·.1) = if c.any (fun p => decide (p.1 = k)) then c.map (·.1) else c.map (·.1) ++ [k] := by
  unfold kdpPut
  split
  · rw [List.map_map]
    refine List.map_congr_left fun p _ => ?_
    show (if decide (p.1 = k) = true then (p.1, v) else p).1 = p.1
    split <;> rfl
  · rw [List.map_append]; rfl
theorem BkInv.step {pre : List Int} {c : List (Str × Int)} {k : Int} {v : Int} {x : Str} (h : BkInv pre c) (hx : okT x) (hl : x.length ≤ 4) : BkInv (pre ++ [k]) (kdpPut c x v) := by
  refine ⟨?_, ?_, ?_⟩
  · have := kdpPut_len c x v
    have := h.len
    rw [List.length_append]; simp; omega
  · rw [kdpPut_keys]
    split
    · exact h.ok.nodup
    · rename_i hn
      refine List.nodup_append.mpr ⟨h.ok.nodup, by simp, ?_⟩
      intro a ha b hb e
      rw [List.mem_singleton.mp hb] at e
      subst e
      apply hn
      obtain ⟨p, hp, rfl⟩ := List.mem_map.mp ha
      exact List.any_eq_true.mpr ⟨p, hp, by simp⟩
  · intro p hp
    have hm : p.1 ∈ (kdpPut c x v).map (·.1) := List.mem_map.mpr ⟨p, hp, rfl⟩
    rw [kdpPut_keys] at hm
    have old : p.1 ∈ c.map (·.1) → okT p.1 ∧ p.1.length ≤ 4 := by
      intro hq
      obtain ⟨q, hq, e⟩ := List.mem_map.mp hq
      rw [← e]; exact h.ok.ok q hq
    split at hm
    · exact old hm
    · rcases List.mem_append.mp hm with hm | hm
      · exact old hm
      · rw [List.mem_singleton.mp hm]; exact ⟨hx, hl⟩
theorem BkInv.step' {pre : List Int} {c : List (Str × Int)} {k : Int} {v a m : Int} {x : Str} {n : Nat} (h : BkInv pre c) (T : TxtInv (rangeKs a n) m x) (hn : n ≤ 4) : BkInv (pre ++ [k]) (kdpPut c x v) :=
  h.step T.ok (by rw [T.len, rangeKs_length]; exact hn)
end Mine
namespace Mine
open PySem PySem.Sem PyProof PySem.W PyProof.Rows PyProof.V PySem.Spec

theorem BookOk.len7 {pre : List Int} {c : List (Str × Int)} {n : Int} (h : BkInv pre c) (hl : pre.length < ((if n < 7 then n else 7) - 0).toNat) : c.length ≤ 16777216 := by
  have := h.len
  split at hl <;> omega
theorem BkInv.fin {c : List (Str × Int)} {n : Int} (h : BkInv (rangeKs 0 ((if n < 7 then n else 7) - 0).toNat) c) : c.length ≤ 7 := by
  have := h.len
  rw [rangeKs_length] at this
  split at this <;> omega

theorem flatKeys : ∀ {kvs : List (Str × Value)} {D : List (PyData × PyData)}, FlatPairs PyData.str kvs D → D.map (·.1) = kvs.map fun p => PyData.str p.1
  | _, _, .nil => rfl
  | _, _, .cons _ h => by simp only [List.map_cons]; rw [flatKeys h]
theorem keys_eq {kvs : List (Str × Value)} {c : List (Str × Int)} (h : FlatPairs PyData.str kvs (kdpD c)) : kvs.map (·.1) = c.map (·.1) := by
  have e := flatKeys h
  have e' : (c.map (·.1)).map PyData.str = (kvs.map (·.1)).map PyData.str := by
    rw [List.map_map, List.map_map]
    unfold kdpD at e
    rw [List.map_map] at e
    exact e
  have inj : ∀ a b : List Str, a.map PyData.str = b.map PyData.str → a = b := by
    intro a
    induction a with
    | nil => intro b h; cases b with
      | nil => rfl
      | cons _ _ => cases h
    | cons x r ih => intro b h; cases b with
      | nil => cases h
      | cons y t =>
        simp only [List.map_cons, List.cons.injEq] at h
        rw [PyData.str.inj h.1, ih t h.2]
  exact (inj _ _ e').symm

theorem strs_of_at : ∀ {vs : List Value} {ks : List Str}, vs.length = ks.length → (∀ (j : Nat) (v : Value), vs[j]? = some v → ∃ (k : Str) (t : Tok), ks[j]? = some k ∧ v = Value.str k t) → StrsAre vs ks
  | [], [], _, _ => .nil
  | [], _ :: _, h, _ => by simp at h
  | _ :: _, [], h, _ => by simp at h
  | v :: vs, k :: ks, hl, h => by
    obtain ⟨k', t, e, rfl⟩ := h 0 v rfl
    simp only [List.getElem?_cons_zero, Option.some.injEq] at e
    subst e
    exact .cons _ _ (strs_of_at (by simpa using hl) fun j u hu => by simpa using h (j + 1) u (by simpa using hu))

section
variable {prog : Program} {w : World} {A : Around} {E : Value → Shared → Prop} {s : Shared} {h₀ : Heap} {L d v : Addr} {m : Str → Option Value} {news : List (Addr × Obj)}

theorem my_list_sort {D : Addr} {vs : List Value} {ss : List Str} {n : Nat} {Q : Value → Shared → Prop} (F : Fr h₀ L s.heap m) (N : News h₀ L s.heap ((D, listOf vs.toArray n) :: news)) (hS : StrsAre vs ss) (h64 : vs.length < 64) (hlt : ∀ q ∈ news, q.1 < D)
    (h : ∀ h' vs' ss' e, Fr h₀ L h' m → News h₀ L h' ((D, listOf vs'.toArray e) :: news) → StrsAre vs' ss' → ss'.Perm ss → sortedS ss' = true → Q .none { s with heap := h' }) :
    wpAny (model prog w) A (call (.builtin "list.sort") [.ref D]) Q E s := by
  have z := N (D, listOf vs.toArray n) (.head _)
  refine wpAny_call_entry PyProof.Rows.slot_list_sort ⟨_, z.1, rfl⟩ PyProof.Rows.entry_list_sort (list_sort_treeK (n := n) (vs := vs) strKind_oneLt z.1 hS.keysOf (fun v₁ v₂ rest e => keyKind_strs (by rw [← e]; exact hS)) h64 fun st' hp hs => ⟨.none, rfl, ?_⟩) (PyProof.Rows.args_list_sort _)
  obtain ⟨ss', a1, a2, a3⟩ := sorted_out_str hS hp hs
  generalize (arrOf st').map (·.2) = out at a1
  have ha : D < s.heap.objs.size := Heap.lt_size z.1
  obtain ⟨e1, ho1⟩ : ∃ e1, (s.heap.update D (Obj.mapSeq fun _ => #[])).get? D = some (seqObj "list" #[] e1) := ⟨_, get?_update_seq z.1 (fun _ => #[])⟩
  have ho6 : (((s.heap.update D (Obj.mapSeq fun _ => #[])).push (seqObj "tuple" vs.toArray 0)).push (seqObj "list" #[] 0)).get? D = some (seqObj "list" #[] e1) := by
    rw [Heap.get?_push_ne _ _ _ (by rw [size_push', Heap.size_update]; exact Nat.ne_of_lt (Nat.lt_succ_of_lt ha)), Heap.get?_push_ne _ _ _ (by rw [Heap.size_update]; exact Nat.ne_of_lt ha)]
    exact ho1
  obtain ⟨e2, ho2⟩ : ∃ e2, (sortedHeap s.heap D vs out).get? D = some (seqObj "list" out e2) := ⟨_, get?_update_seq ho6 (fun _ => out)⟩
  have F1 : Fr h₀ L (s.heap.update D (Obj.mapSeq fun _ => (#[] : Array Value))) m := F.change (Heap.SameBut.update ..) z.2.1 z.2.2
  have F4 : Fr h₀ L (sortedHeap s.heap D vs out) m :=
    ((F1.push (seqObj "tuple" vs.toArray 0)).push (seqObj "list" #[] 0)).change (Heap.SameBut.update ..) z.2.1 z.2.2
  refine h _ out.toList ss' e2 F4 ?_ a1 a2 a3
  intro p hp'
  rcases List.mem_cons.mp hp' with rfl | hp'
  · rw [Array.toArray_toList]
    exact ⟨ho2, z.2⟩
  · have q := N p (.tail _ hp')
    have hne : p.1 ≠ D := Nat.ne_of_lt (hlt p hp')
    refine ⟨?_, q.2⟩
    unfold sortedHeap
    rw [((Heap.SameBut.update _ D _).2 p.1 hne)]
    have q1 : (s.heap.update D (Obj.mapSeq fun _ => (#[] : Array Value))).get? p.1 = some p.2 := ((Heap.SameBut.update _ D _).2 p.1 hne).trans q.1
    exact Heap.get?_push_of_some _ (Heap.get?_push_of_some _ q1)

theorem my_sorted_keys {o : Obj} {kvs : List (Str × Value)} {c : List (Str × Int)} {Q : Value → Shared → Prop} (hh : A.handled = none) (F : Fr h₀ L s.heap m) (N : News h₀ L s.heap news) (hv : (v, { cls := .type "dict_keys", data := .fields #[.ref d] }) ∈ news)
    (hp : (d, o) ∈ news) (hd : o.IsDictOf (PySem.strKind prog w) kvs) (hf : FlatPairs PyData.str kvs (kdpD c)) (hc : c.length ≤ 7)
    (h : ∀ (B : Addr) vs' ss' e h' tk, Fr h₀ L h' m → News h₀ L h' ((B, listOf vs'.toArray e) :: news) → (∀ q ∈ news, q.1 < B) → StrsAre vs' ss' → ss'.Perm (c.map (·.1)) → sortedS ss' = true → Q (.ref B) { s with heap := h', toks := tk }) :
    wpAny (model prog w) A (call (.builtin "sorted") [.ref v]) Q E s := by
  obtain ⟨ep, hat⟩ := (kda_dict N hp hd).dictAt
  have hl0 : kvs.length = c.length := by
    have := congrArg List.length (keys_eq hf)
    simpa using this
  refine kdu_sorted (kdl_keys (knd := PySem.strKind prog w) (kvs := kvs) (ep := ep)) hh F N ⟨⟨_, (N _ hv).1, rfl, rfl⟩, hat⟩ (kdl_size (by omega)) fun B h' tk vs F' N' l1 hl hv' => ?_
  have hS : StrsAre vs (c.map (·.1)) := by
    rw [← keys_eq hf]
    refine strs_of_at (by rw [hl, List.length_map]) fun j u hu => ?_
    obtain ⟨k, x, e, hk⟩ := hv' j u hu
    obtain ⟨t, rfl⟩ := PySem.Value.isStrOf_shape hk
    exact ⟨k, t, by rw [List.getElem?_map, e]; rfl, rfl⟩
  refine my_list_sort F' N' hS (by omega) l1 fun h'' vs' ss' e F'' N'' a1 a2 a3 => ?_
  exact h B vs' ss' e h'' tk F'' N'' l1 a1 a2 a3
end
end Mine
namespace Mine
open PySem PyProof PySem.W PyProof.Rows PyProof.V PySem.Spec

abbrev cp (x : Str) : List Nat := x.cps.toList
theorem cp_inj {x y : Str} (h : cp x = cp y) : x = y := Str.ext' (Array.toList_inj.mp h)
theorem rising_pw : ∀ (p : Str) (l : List Str), risingS p l = true → (p :: l).Pairwise (fun a b => cp a ≤ cp b)
  | p, [], _ => by simp
  | p, x :: r, h => by
    have h' : (!ltCps x.cps.toList p.cps.toList && risingS x r) = true := h
    rw [Bool.and_eq_true, Bool.not_eq_true', ltCps_eq] at h'
    have h1 : cp p ≤ cp x := List.not_lt.mp (of_decide_eq_false h'.1)
    have ih := rising_pw x r h'.2
    refine List.pairwise_cons.mpr ⟨fun y hy => ?_, ih⟩
    rcases List.mem_cons.mp hy with rfl | hy
    · exact h1
    · exact List.le_trans h1 ((List.pairwise_cons.mp ih).1 y hy)
theorem sorted_pw : ∀ {l : List Str}, sortedS l = true → l.Pairwise (fun a b => cp a ≤ cp b)
  | [], _ => List.Pairwise.nil
  | x :: r, h => rising_pw x r h
theorem pw_unique : ∀ {a b : List Str}, a.Perm b → a.Pairwise (fun a b => cp a ≤ cp b) → b.Pairwise (fun a b => cp a ≤ cp b) → a = b := by
  intro a b hp ha hb
  exact hp.eq_of_pairwise (fun x y _ _ h1 h2 => cp_inj (List.le_antisymm h1 h2)) ha hb
def ltS' (x y : Str) : Bool := decide (cp x < cp y)
theorem tw_iff {f : Str} : ∀ {ss : List Str}, ss.Pairwise (fun a b => cp a ≤ cp b) → ∀ {k : Nat} {x : Str}, ss[k]? = some x → (ltS' x f = true ↔ k < (ss.takeWhile fun x => ltS' x f).length)
  | [], _, k, x, h => by simp at h
  | y :: r, hs, 0, x, h => by
    simp only [List.getElem?_cons_zero, Option.some.injEq] at h
    subst h
    rw [List.takeWhile_cons]
    cases hy : ltS' y f <;> simp
  | y :: r, hs, k + 1, x, h => by
    simp only [List.getElem?_cons_succ] at h
    have ih := tw_iff (f := f) (List.pairwise_cons.mp hs).2 h
    rw [List.takeWhile_cons]
    cases hy : ltS' y f with
    | true => simp only [if_true, List.length_cons]; rw [ih]; omega
    | false =>
      simp only [Bool.false_eq_true, if_false, List.length_nil, Nat.not_lt_zero, iff_false]
      intro hx
      have h1 : cp y ≤ cp x := (List.pairwise_cons.mp hs).1 x (List.mem_of_getElem? h)
      have h2 : cp x < cp f := of_decide_eq_true hx
      have h3 : ¬ cp y < cp f := of_decide_eq_false hy
      exact h3 (List.lt_of_le_of_lt h1 h2)
theorem lt_of_pfx_lt {f a : List Nat} : ∀ (_ : f.isPrefixOf a = false) (_ : f ≤ a) {k : List Nat} (_ : f.isPrefixOf k = true), k < a := by
  induction f generalizing a with
  | nil => intro h; cases a <;> simp at h
  | cons x f ih =>
    intro h1 h2 k h3
    cases k with
    | nil => simp at h3
    | cons y k =>
      rw [List.isPrefixOf_cons_cons, Bool.and_eq_true, beq_iff_eq] at h3
      obtain ⟨rfl, h3⟩ := h3
      cases a with
      | nil => exact absurd h2 (by simp)
      | cons z a =>
        rw [List.isPrefixOf_cons_cons] at h1
        rcases List.cons_le_cons_iff.mp h2 with h4 | ⟨e4, h4⟩
        · exact List.cons_lt_cons_iff.mpr (.inl h4)
        · subst e4
          rw [beq_self_eq_true, Bool.true_and] at h1
          exact List.cons_lt_cons_iff.mpr (.inr ⟨rfl, ih h1 h4 h3⟩)
theorem pfx_le {f k : List Nat} (h : f.isPrefixOf k = true) : f ≤ k := by
  induction f generalizing k with
  | nil => exact List.nil_le _
  | cons x f ih =>
    cases k with
    | nil => simp at h
    | cons y k =>
      rw [List.isPrefixOf_cons_cons, Bool.and_eq_true, beq_iff_eq] at h
      exact List.cons_le_cons_iff.mpr (.inr ⟨h.1, ih h.2⟩)
end Mine
namespace Mine
open PySem PyProof PySem.W PyProof.Rows PyProof.V PySem.Spec PySem.Builtin.Str

theorem sw_pfx' (x f : Str) : Txt.startswith x f = f.cps.toList.isPrefixOf x.cps.toList := by
  rw [Bool.eq_iff_iff, List.isPrefixOf_iff_prefix, List.prefix_iff_eq_take]
  unfold Txt.startswith subAt
  rw [Bool.and_eq_true, decide_eq_true_eq, beq_iff_eq, ← Array.toList_inj, Array.toList_extract]
  simp only [Nat.zero_add, List.extract_eq_take_drop, List.drop_zero, Nat.sub_zero, Str.length, Array.length_toList]
  constructor
  · intro h; exact h.2.symm
  · intro h
    refine ⟨?_, h.symm⟩
    have := congrArg List.length h
    rw [List.length_take, Array.length_toList, Array.length_toList] at this
    omega
theorem idx_upto {n m : Nat} (h : m ≤ n) : strSliceIndices none (some (m : Int)) 1 n = List.range m := by
  unfold strSliceIndices sliceRange
  have e1 : (if (m : Int) < 0 then (m : Int) + n else m) = m := by rw [if_neg (by omega)]
  have e2 : max (0 : Int) (min (m : Int) (n : Int)) = m := by omega
  simp only [show (1 : Int) > 0 by decide, if_true, e1, e2]
  apply List.ext_getElem
  · simp only [List.length_map, List.length_range]
    split <;> omega
  · intro i h1 h2
    simp
theorem fm_range (a : Array Nat) : ∀ m, m ≤ a.size → (List.range m).filterMap (a[·]?) = a.toList.take m
  | 0, _ => by simp
  | m + 1, h => by
    rw [List.range_succ, List.filterMap_append, fm_range a m (by omega), List.take_add_one]
    have : m < a.size := by omega
    simp [this]
theorem slice_upto {x : Str} {m : Nat} (h : m ≤ x.length) : (Txt.slice x none (some (m : Int))).cps.toList = x.cps.toList.take m := by
  unfold Txt.slice
  rw [idx_upto h]
  split
  · rename_i hc
    simp only [Bool.and_eq_true, beq_iff_eq, List.length_range] at hc
    rw [hc.2]
    exact (List.take_of_length_le (by rw [Array.length_toList]; exact Nat.le_refl _)).symm
  · exact fm_range x.cps m h
theorem cut_len' {f : Str} {k : Int} (h0 : 1 ≤ k) (h1 : k ≤ (f.length : Int)) : (Txt.slice f none (some (-k))).length < f.length := by
  have e : Txt.slice f none (some (-k)) = Txt.slice f none (some ((f.length - k.toNat : Nat) : Int)) := by
    unfold Txt.slice
    rw [PySem.StrLaws.sliceIdx_neg_hi none f.length (by omega) (by omega)]
    have : (-k + (f.length : Int)) = ((f.length - k.toNat : Nat) : Int) := by omega
    rw [this]
  rw [e]
  have h2 := congrArg List.length (slice_upto (x := f) (m := f.length - k.toNat) (by omega))
  rw [Array.length_toList, List.length_take, Array.length_toList] at h2
  show (Txt.slice f none (some ((f.length - k.toNat : Nat) : Int))).cps.size < f.length
  rw [h2]
  omega
end Mine
namespace Mine
open PySem PySem.Sem PyProof PySem.W PyProof.Rows PyProof.V PySem.Spec

structure WS where
  av : List Value
  as : List Str
  an : Nat
  fv : List Value
  fs : List Str
  fn : Nat
  pv : List Value
  ps : List Str
  pn : Nat
  cell : Obj
  cv : Option Value
def WLed (aA aF aP cF : Addr) (r1 r2 r3 r4 r5 r6 r7 r8 : Addr × Obj) (c : WS) : List (Addr × Obj) :=
  [(aA, listOf c.av.toArray c.an), (aF, listOf c.fv.toArray c.fn), (aP, listOf c.pv.toArray c.pn), r1, r2, r3, r4, r5, r6, r7, r8, (cF, c.cell)]
def WFacts (c : WS) : Prop := StrsAre c.av c.as ∧ StrsAre c.fv c.fs ∧ StrsAre c.pv c.ps ∧ c.cell.data = .cell c.cv
/-- what a turn of the big loop must reach -/
def WEnd (h₀ : Heap) (L : Addr) (s : Shared) (aA aF aP cF : Addr) (r1 r2 r3 r4 r5 r6 r7 r8 : Addr × Obj) (m₀ : Str → Option Value) (P : List Str → List Str → List Str → Prop) (N : Nat) (s₂ : Shared) : Prop :=
  ∃ (c : WS) (h' : Heap) (tk : Nat) (m' : Str → Option Value) (news' : List (Addr × Obj)), s₂ = { s with heap := h', toks := tk } ∧ Fr h₀ L h' m' ∧ News h₀ L h' news' ∧ (∀ p ∈ WLed aA aF aP cF r1 r2 r3 r4 r5 r6 r7 r8 c, p ∈ news') ∧ WFacts c ∧ (∀ z, m' z = m₀ z) ∧ P c.ps c.fs c.as ∧ c.as.length + 7 * (32 - c.ps.length) < N
def WPost (h₀ : Heap) (L : Addr) (s : Shared) (aA aF aP cF : Addr) (r1 r2 r3 r4 r5 r6 r7 r8 : Addr × Obj) (m₀ : Str → Option Value) (P : List Str → List Str → List Str → Prop) (N : Nat) (f : Flow) (s₂ : Shared) : Prop :=
  match f with
  | .ret _ => False
  | .brk => False
  | _ => WEnd h₀ L s aA aF aP cF r1 r2 r3 r4 r5 r6 r7 r8 m₀ P N s₂
section
variable {prog : Program} {w : World} {A : Around} {E : Value → Shared → Prop} {Q : Flow → Shared → Prop} {s : Shared} {env : Env} {h₀ : Heap} {L : Addr}
theorem my_while {test : Expr} {body : List Stmt} {pos : Pos} {m₀ : Str → Option Value} {aA aF aP cF : Addr} {r1 r2 r3 r4 r5 r6 r7 r8 : Addr × Obj} {t0 : Tok} {n1 n2 n3 : Nat} {oc : Obj} {cv : Option Value} (P : List Str → List Str → List Str → Prop)
    (F : Fr h₀ L s.heap m₀) (N : News h₀ L s.heap [(aA, listOf [Value.str (Str.ofString "") t0].toArray n1), (aF, listOf ([] : List Value).toArray n2), (aP, listOf ([] : List Value).toArray n3), r1, r2, r3, r4, r5, r6, r7, r8, (cF, oc)]) (hc : oc.data = .cell cv)
    (hp : P [] [] [Str.ofString ""])
    (turn : ∀ av as an fv fs fn pv ps pn cell cv h tk, StrsAre av as → StrsAre fv fs → StrsAre pv ps → cell.data = .cell cv → P ps fs as → Fr h₀ L h m₀ → News h₀ L h [(aA, listOf av.toArray an), (aF, listOf fv.toArray fn), (aP, listOf pv.toArray pn), r1, r2, r3, r4, r5, r6, r7, r8, (cF, cell)] →
      wpAny (model prog w) A (isTrue test env (eval test env)) (fun b s₂ =>
        if b = true then wpAny (model prog w) A (execs body env) (WPost h₀ L s aA aF aP cF r1 r2 r3 r4 r5 r6 r7 r8 m₀ P (as.length + 7 * (32 - ps.length))) E s₂ else Q .next s₂) E { s with heap := h, toks := tk })
    (hE : PassesOwn (model prog w) A env E := by passes_own) :
    wpAny (model prog w) A (exec (.While test body [] pos) env) Q E s := by
  refine ksw_while (σ := WS) (WLed aA aF aP cF r1 r2 r3 r4 r5 r6 r7 r8) (fun _ => []) WFacts [] (fun c => P c.ps c.fs c.as) (fun c => c.as.length + 7 * (32 - c.ps.length))
    ⟨[Value.str (Str.ofString "") t0], [Str.ofString ""], n1, [], [], n2, [], [], n3, oc, cv⟩ F N ⟨.cons _ _ .nil, .nil, .nil, hc⟩ (fun _ h => nomatch h) hp ?_ hE
  rintro ⟨av, as, an, fv, fs, fn, pv, ps, pn, cell, cv⟩ u h tk ⟨f1, f2, f3, f4⟩ hP F₁ N₁
  have em : kstB (fun z => if ([] : List Str).contains z then u z else m₀ z) [] = m₀ := by
    funext z; rfl
  rw [em] at F₁
  refine wpAny_mono (turn av as an fv fs fn pv ps pn cell cv h tk f1 f2 f3 f4 hP F₁ N₁) (fun b s₂ p => ?_) fun _ _ x => x
  cases b with
  | false => exact p
  | true =>
    simp only [if_true] at p ⊢
    refine wpAny_mono p (fun f s₃ q => ?_) fun _ _ x => x
    have fin : WEnd h₀ L s aA aF aP cF r1 r2 r3 r4 r5 r6 r7 r8 m₀ P (as.length + 7 * (32 - ps.length)) s₃ →
        KswEnd h₀ L s (WLed aA aF aP cF r1 r2 r3 r4 r5 r6 r7 r8) (fun _ => []) WFacts [] m₀ (fun c => P c.ps c.fs c.as) (fun c => c.as.length + 7 * (32 - c.ps.length)) ⟨av, as, an, fv, fs, fn, pv, ps, pn, cell, cv⟩ s₃ := by
      rintro ⟨c', h', tk', m', news', e, F', N', hn, hf, hm, hp', hl⟩
      exact ⟨c', h', tk', m', news', e, F', N', hn, hf, (fun _ h => nomatch h), (fun z _ _ => hm z), hp', hl⟩
    cases f with
    | ret v => exact q.elim
    | brk => exact q.elim
    | next => exact fin q
    | cont => exact fin q
theorem WEnd.intro {m₀ m' : Str → Option Value} {aA aF aP cF : Addr} {r1 r2 r3 r4 r5 r6 r7 r8 : Addr × Obj} {P : List Str → List Str → List Str → Prop} {K : Nat} {h' : Heap} {tk : Nat} {news' : List (Addr × Obj)}
    {av : List Value} {as : List Str} {an : Nat} {fv : List Value} {fs : List Str} {fn : Nat} {pv : List Value} {ps : List Str} {pn : Nat} {cell : Obj} {cv : Option Value}
    (F : Fr h₀ L h' m') (N : News h₀ L h' news') (h1 : (aA, listOf av.toArray an) ∈ news') (h2 : (aF, listOf fv.toArray fn) ∈ news') (h3 : (aP, listOf pv.toArray pn) ∈ news') (h4 : (cF, cell) ∈ news') (hr : ∀ p ∈ [r1, r2, r3, r4, r5, r6, r7, r8], p ∈ news')
    (f1 : StrsAre av as) (f2 : StrsAre fv fs) (f3 : StrsAre pv ps) (f4 : cell.data = .cell cv) (hm : ∀ z, m' z = m₀ z) (hp : P ps fs as) (hl : as.length + 7 * (32 - ps.length) < K) :
    WEnd h₀ L s aA aF aP cF r1 r2 r3 r4 r5 r6 r7 r8 m₀ P K { s with heap := h', toks := tk } := by
  refine ⟨⟨av, as, an, fv, fs, fn, pv, ps, pn, cell, cv⟩, h', tk, m', news', rfl, F, N, ?_, ⟨f1, f2, f3, f4⟩, hm, hp, hl⟩
  intro p hp
  simp only [WLed, List.mem_cons, List.not_mem_nil, or_false] at hp
  simp only [List.mem_cons, List.not_mem_nil, or_false, forall_eq_or_imp, forall_eq] at hr
  obtain ⟨q1, q2, q3, q4, q5, q6, q7, q8⟩ := hr
  rcases hp with rfl | rfl | rfl | rfl | rfl | rfl | rfl | rfl | rfl | rfl | rfl | rfl <;> assumption
end
end Mine
namespace Mine
open PySem PySem.Sem PyProof PySem.W PyProof.Rows PyProof.V PySem.Spec

def pfx (f k : Str) : Bool := f.cps.toList.isPrefixOf k.cps.toList
def has (K : List Str) (f : Str) : Bool := K.any (pfx f)
def walk (K : List Str) : Nat → Str → List Str
  | 0, _ => []
  | d + 1, f => if has K f = true then f :: signs.flatMap (fun s => walk K d (f ++ s)) else []
def P5 (K : List Str) (f : Str) : List Str := walk K (5 - f.length) f
def keysOf (c : List (Str × Int)) : List Str := c.map (·.1)

structure WInv (c : List (Str × Int)) (ps fs as : List Str) : Prop where
  book : BookOk c
  few : c.length ≤ 7
  walk : ps ++ as.reverse.flatMap (P5 (keysOf c)) = P5 (keysOf c) (Str.ofString "")
  found : fs = ps.filter (kdpHas c)
  lens : ∀ a ∈ as, a.length ≤ 5
  size : as.length ≤ 1 + 6 * ps.length

theorem WInv.start {c : List (Str × Int)} (h : BookOk c) (h7 : c.length ≤ 7) : WInv c [] [] [Str.ofString ""] :=
  ⟨h, h7, by simp, rfl, by intro a ha; rw [List.mem_singleton.mp ha, len_empty]; omega, by simp⟩
theorem WInv.no {c : List (Str × Int)} {ps fs as : List Str} {f : Str} (h : WInv c ps fs (as ++ [f])) (hf : has (keysOf c) f = false) : WInv c ps fs as := by
  refine ⟨h.book, h.few, ?_, h.found, fun a ha => h.lens a (List.mem_append_left _ ha), ?_⟩
  · have e := h.walk
    rw [List.reverse_append, List.flatMap_append] at e
    have z : P5 (keysOf c) f = [] := by
      unfold P5
      cases 5 - f.length with
      | zero => rfl
      | succ d => show (if has (keysOf c) f = true then _ else []) = []; rw [hf]; rfl
    simpa [z] using e
  · have := h.size
    rw [List.length_append] at this
    omega
def kids (f : Str) : List Str := [f ++ signs.getD 5 Str.empty, f ++ signs.getD 4 Str.empty, f ++ signs.getD 3 Str.empty, f ++ signs.getD 2 Str.empty, f ++ signs.getD 1 Str.empty, f ++ signs.getD 0 Str.empty]
theorem kids_eq (f : Str) : kids f = (signs.map (f ++ ·)).reverse := rfl
theorem pfx_len {f k : Str} (h : pfx f k = true) : f.length ≤ k.length := by
  have := (List.isPrefixOf_iff_prefix.mp h).length_le
  simpa [Str.length] using this
theorem has_len {c : List (Str × Int)} (hb : BookOk c) {f : Str} (h : has (keysOf c) f = true) : f.length ≤ 4 := by
  obtain ⟨k, hk, hp⟩ := List.any_eq_true.mp h
  obtain ⟨p, hp', rfl⟩ := List.mem_map.mp hk
  exact Nat.le_trans (pfx_len hp) (hb.ok p hp').2
theorem P5_yes {c : List (Str × Int)} (hb : BookOk c) {f : Str} (h : has (keysOf c) f = true) : P5 (keysOf c) f = f :: signs.flatMap (fun s => P5 (keysOf c) (f ++ s)) := by
  have hl := has_len hb h
  obtain ⟨d, hd⟩ : ∃ d, 5 - f.length = d + 1 := ⟨4 - f.length, by omega⟩
  unfold P5
  rw [hd]
  show (if has (keysOf c) f = true then _ else []) = _
  rw [if_pos h]
  congr 1
  refine congrArg List.flatten (List.map_congr_left fun s hs => ?_)
  rw [Str.length_append, sign_len hs]
  have : 5 - (f.length + 1) = d := by omega
  rw [this]
theorem WInv.yes {c : List (Str × Int)} {ps fs as : List Str} {f : Str} (h : WInv c ps fs (as ++ [f])) (hf : has (keysOf c) f = true) :
    WInv c (ps ++ [f]) (if kdpHas c f = true then fs ++ [f] else fs) (as ++ kids f) := by
  refine ⟨h.book, h.few, ?_, ?_, ?_, ?_⟩
  · have e := h.walk
    rw [List.reverse_append, List.flatMap_append] at e
    rw [← e, kids_eq, List.reverse_append, List.reverse_reverse, List.flatMap_append]
    have hy := P5_yes h.book hf
    simp only [List.reverse_cons, List.reverse_nil, List.nil_append, List.flatMap_cons, List.flatMap_nil, List.append_nil, hy, List.flatMap_map, List.append_assoc, List.cons_append]
  · rw [List.filter_append, ← h.found]
    by_cases hk : kdpHas c f = true
    · rw [if_pos hk]; simp [hk]
    · rw [if_neg hk]; simp [hk]
  · intro a ha
    rcases List.mem_append.mp ha with ha | ha
    · exact h.lens a (List.mem_append_left _ ha)
    · rw [kids_eq, List.mem_reverse] at ha
      obtain ⟨s, hs, rfl⟩ := List.mem_map.mp ha
      rw [Str.length_append, sign_len hs]
      have := has_len h.book hf
      omega
  · have := h.size
    rw [List.length_append] at this
    rw [List.length_append, List.length_append]
    simp only [kids, List.length_cons, List.length_nil] at *
    omega
end Mine
namespace Mine
open PySem PyProof PySem.W PyProof.Rows PyProof.V PySem.Spec

theorem strs_last : ∀ {us : List Value} {ss : List Str}, StrsAre us ss → ss ≠ [] → ∃ us' ss' f t, us = us' ++ [Value.str f t] ∧ ss = ss' ++ [f] ∧ StrsAre us' ss'
  | _, _, .nil, h => absurd rfl h
  | _, _, .cons y t (vs := vs) (ys := ys) r, _ => by
    by_cases hy : ys = []
    · subst hy
      cases r
      exact ⟨[], [], y, t, rfl, rfl, .nil⟩
    · obtain ⟨us', ss', f, u, e1, e2, h⟩ := strs_last r hy
      exact ⟨.str y t :: us', y :: ss', f, u, by rw [e1]; rfl, by rw [e2]; rfl, .cons _ _ h⟩

section
variable {prog : Program} {w : World} {A : Around} {E : Value → Shared → Prop} {s : Shared} {h₀ : Heap} {L D : Addr} {m : Str → Option Value} {news : List (Addr × Obj)} {g : Obj → List (Addr × Obj)} {us : List Value} {ss : List Str} {n : Nat}

theorem my_isList (N : News h₀ L s.heap news) (hm : (D, listOf us.toArray n) ∈ news) : s.heap.IsList D us.toArray := ⟨_, (N _ hm).1, rfl, n, rfl⟩

theorem my_truthy {Q : Bool → Shared → Prop} (N : News h₀ L s.heap news) (hm : (D, listOf us.toArray n) ∈ news) (hS : StrsAre us ss) (hz : ss.length ≤ 100000)
    (h0 : ss = [] → Q false { s with toks := s.toks + 1 + 1 }) (h1 : ss ≠ [] → Q true { s with toks := s.toks + 1 + 1 }) : wpAny (model prog w) A (truthy (.ref D)) Q E s := by
  have e := hS.len_eq
  refine wpAny_truthy_list (items := us.toArray) (my_isList N hm) (by rw [List.size_toArray]; omega) ?_
  rw [List.isEmpty_toArray]
  cases hS with
  | nil => exact h0 rfl
  | cons y t r => exact h1 (by simp)

theorem my_len {Q : Value → Shared → Prop} (N : News h₀ L s.heap news) (hm : (D, listOf us.toArray n) ∈ news) (hS : StrsAre us ss) (hz : ss.length ≤ 100000)
    (h : Q (.int (ss.length : Int) (s.toks + 1)) { s with toks := s.toks + 1 + 1 }) : wpAny (model prog w) A (call (.builtin "len") [.ref D]) Q E s := by
  have e := hS.len_eq
  refine len_list (items := us.toArray) (my_isList N hm) (by rw [List.size_toArray]; omega) ?_
  rw [List.size_toArray, e]
  exact h

theorem my_set {o' : Obj} {o : Obj} {h' : Heap} (N : News h₀ L s.heap news) (F : Fr h₀ L s.heap m) (U : UpdF D o news g) (hs : Heap.SameBut D s.heap h') (ho : h'.get? D = some o') : Fr h₀ L h' m ∧ News h₀ L h' (g o') := by
  obtain ⟨pre, post, rfl, hg, a, b⟩ := U.split
  have z := N (D, o) (List.mem_append.mpr (.inr (.head _)))
  exact ⟨F.change hs z.2.1 z.2.2, hg o' ▸ news_set N a b hs ho⟩
theorem my_mem {o : Obj} (U : UpdF D o news g) : (D, o) ∈ news := by
  obtain ⟨pre, post, rfl, _⟩ := U.split
  exact List.mem_append.mpr (.inr (.head _))

theorem my_pop {Q : Value → Shared → Prop} (F : Fr h₀ L s.heap m) (N : News h₀ L s.heap news) (U : UpdF D (listOf us.toArray n) news g) (hS : StrsAre us ss) (hne : ss ≠ []) (hz : ss.length ≤ 100000)
    (h : ∀ h' us' ss' f t, Fr h₀ L h' m → News h₀ L h' (g (listOf us'.toArray (n + 1))) → StrsAre us' ss' → ss = ss' ++ [f] → Q (.str f t) { s with heap := h' }) : wpAny (model prog w) A (call (.builtin "list.pop") [.ref D]) Q E s := by
  obtain ⟨us', ss', f, t, rfl, rfl, hS'⟩ := strs_last hS hne
  have z := N _ (my_mem U)
  have e := hS.len_eq
  have hz' : (us' ++ [Value.str f t]).toArray.size ≤ sizeLine := by rw [List.size_toArray, sizeLine_eq]; omega
  have hk : (us' ++ [Value.str f t]).toArray.size - 1 = us'.length := by rw [List.size_toArray, List.length_append]; rfl
  have hy : (us' ++ [Value.str f t]).toArray[(us' ++ [Value.str f t]).toArray.size - 1]? = some (.str f t) := by rw [hk]; simp
  have he : (us' ++ [Value.str f t]).toArray.eraseIdxIfInBounds ((us' ++ [Value.str f t]).toArray.size - 1) = us'.toArray := by rw [hk, kl_erase, List.append_nil]
  have q := PySem.IsL.update z.1 (fun x => x.eraseIdxIfInBounds ((us' ++ [Value.str f t]).toArray.size - 1))
  rw [he, if_neg (by simp)] at q
  obtain ⟨F', N'⟩ := my_set N F U (Heap.SameBut.update _ D _) q
  exact call_meets PySem.F.slot_list_pop ⟨_, z.1, rfl⟩ PySem.F.entry_list_pop (PySem.F.args_list_pop_1 _) (PySem.MeetsSeq.list_pop_last D _ n (.str f t) hy hz') ⟨z.1, h _ us' ss' f t F' N' hS' rfl⟩

theorem my_append {x : Str} {t : Tok} {Q : Value → Shared → Prop} (F : Fr h₀ L s.heap m) (N : News h₀ L s.heap news) (U : UpdF D (listOf us.toArray n) news g) (hS : StrsAre us ss) (hz : ss.length ≤ 100000)
    (h : ∀ h', Fr h₀ L h' m → News h₀ L h' (g (listOf (us ++ [Value.str x t]).toArray (n + 1))) → StrsAre (us ++ [Value.str x t]) (ss ++ [x]) → Q .none { s with heap := h' }) : wpAny (model prog w) A (call (.builtin "list.append") [.ref D, .str x t]) Q E s := by
  have z := N _ (my_mem U)
  have e := hS.len_eq
  refine append_at (hsz := by rw [List.size_toArray, sizeLine_eq]; omega) z.1 fun h' hs ho' => ?_
  have e2 : us.toArray.push (Value.str x t) = (us ++ [Value.str x t]).toArray := by simp
  rw [e2] at ho'
  obtain ⟨F', N'⟩ := my_set N F U hs ho'
  exact h h' F' N' (StrsAre.append' hS (.cons _ _ .nil))

theorem fi_list : fillsInplaceSlot (.type "list") "add" (Operator.Add == .Add) = pure false := by
  unfold fillsInplaceSlot
  show (typeLookup (.type "list") (dunderI "add") >>= fun fi => pure (fi.isSome && !isSeqSlot fi)) = pure false
  rw [PySem.F.slot_list_iadd.lookup]
  show (pure (true && !isSeqSlotId "list.__iadd__") : Sem Bool) = pure false
  rw [show isSeqSlotId "list.__iadd__" = true from by decide +kernel]
  rfl
theorem si_list : seqSlot? (.type "list") (dunderI "add") = pure (some (.builtin "list.__iadd__")) := PySem.seqSlot_of PySem.F.slot_list_iadd.lookup (by decide +kernel)

theorem my_iadd {b : Addr} {ws : List Value} {ts : List Str} {k : Nat} {Q : Value → Shared → Prop} (F : Fr h₀ L s.heap m) (N : News h₀ L s.heap news) (U : UpdF D (listOf us.toArray n) news g) (hb : (b, listOf ws.toArray k) ∈ news) (hS : StrsAre us ss) (hT : StrsAre ws ts) (hz : ss.length ≤ 100000) (hz2 : ts.length ≤ 100000)
    (h : ∀ h' n', Fr h₀ L h' m → News h₀ L h' (g (listOf (us ++ ws).toArray n')) → StrsAre (us ++ ws) (ss ++ ts) → Q (.ref D) { s with heap := h' }) : wpAny (model prog w) A (inplaceOp .Add (.ref D) (.ref b)) Q E s := by
  have z := N _ (my_mem U)
  have zb := N _ hb
  have e := hS.len_eq
  have e2 := hT.len_eq
  have ta : s.TypeIs (.ref D) "list" := ⟨_, z.1, rfl⟩
  have tb : s.TypeIs (.ref b) "list" := ⟨_, zb.1, rfl⟩
  unfold inplaceOp
  refine wpAny_holding ?_
  refine wpAny_bind (wpAny_typeOf ta (wpAny_bind (wpAny_of_eq fi_list ?_)))
  show wpAny _ A (if false = true then _ else _) Q E s
  rw [if_neg Bool.false_ne_true]
  refine wpAny_bind (wpAny_binaryOp1_none (nm := "add") ta tb noFill_list_add ?_)
  refine wpAny_bind (wpAny_of_eq si_list ?_)
  refine wpAny_bind (wpAny_rule ?_)
  have q := PySem.IsL.update z.1 (fun x => x ++ ws.toArray)
  have e3 : us.toArray ++ ws.toArray = (us ++ ws).toArray := by simp
  dsimp only at q
  rw [e3] at q
  obtain ⟨F', N'⟩ := my_set N F U (Heap.SameBut.update _ D _) q
  have hlong : ¬(!us.toArray.isEmpty && Builtin.List.listTooLong (us.toArray.size + ws.toArray.size)) = true := by
    have hn : Builtin.List.listTooLong (us.toArray.size + ws.toArray.size) = false := by
      unfold Builtin.List.listTooLong
      rw [List.size_toArray, List.size_toArray, sizeLine_eq]
      exact decide_eq_false (by omega)
    rw [hn]; simp
  exact call_meets PySem.F.slot_list_iadd ta PySem.F.entry_list_iadd (PySem.F.args_list_iadd_2 _ _) (PySem.AutoSeq1.list___iadd___list_list_0 D us.toArray n b ws.toArray k hlong (by rw [List.size_toArray, sizeLine_eq]; omega) (by rw [List.size_toArray, List.size_toArray, sizeLine_eq]; omega)) ⟨z.1, zb.1, h _ _ F' N' (StrsAre.append' hS hT)⟩
end
end Mine
namespace Mine
open PySem PyProof PySem.W PyProof.Rows PyProof.V PySem.Spec

theorem pfx_iff {f k : Str} : pfx f k = true ↔ cp f <+: cp k := List.isPrefixOf_iff_prefix
theorem cp_app (x y : Str) : cp (x ++ y) = cp x ++ cp y := by
  show (x ++ y).cps.toList = _
  rw [Str.cps_append, Array.toList_append]
theorem has_iff {K : List Str} {x : Str} : has K x = true ↔ ∃ k ∈ K, cp x <+: cp k := by
  unfold has
  rw [List.any_eq_true]
  exact ⟨fun ⟨k, h1, h2⟩ => ⟨k, h1, pfx_iff.mp h2⟩, fun ⟨k, h1, h2⟩ => ⟨k, h1, pfx_iff.mpr h2⟩⟩
theorem has_down {K : List Str} {x y : Str} (h : has K y = true) (hp : cp x <+: cp y) : has K x = true := by
  obtain ⟨k, h1, h2⟩ := has_iff.mp h
  exact has_iff.mpr ⟨k, h1, hp.trans h2⟩
theorem walk_mem {K : List Str} : ∀ {d : Nat} {f x : Str}, x ∈ walk K d f → cp f <+: cp x ∧ has K x = true
  | 0, f, x, h => by simp [walk] at h
  | d + 1, f, x, h => by
    unfold walk at h
    by_cases hf : has K f = true
    · rw [if_pos hf] at h
      rcases List.mem_cons.mp h with rfl | h
      · exact ⟨List.prefix_refl _, hf⟩
      · obtain ⟨s, hs, h⟩ := List.mem_flatMap.mp h
        have := walk_mem h
        refine ⟨?_, this.2⟩
        rw [cp_app] at this
        exact (List.prefix_append _ _).trans this.1
    · rw [if_neg hf] at h; cases h
theorem prefix_lt {a b : List Nat} {n : Nat} (h : a ++ [n] <+: b) : a < b := by
  obtain ⟨t, rfl⟩ := h
  rw [List.append_assoc]
  induction a with
  | nil => exact List.nil_lt_cons _ _
  | cons x a ih => exact List.cons_lt_cons_iff.mpr (.inr ⟨rfl, ih⟩)
theorem branch_lt {f a b : List Nat} {n m : Nat} (hn : n < m) (h1 : f ++ [n] <+: a) (h2 : f ++ [m] <+: b) : a < b := by
  obtain ⟨t, rfl⟩ := h1
  obtain ⟨u, rfl⟩ := h2
  rw [List.append_assoc, List.append_assoc]
  induction f with
  | nil => exact List.cons_lt_cons_iff.mpr (.inl hn)
  | cons x a ih => exact List.cons_lt_cons_iff.mpr (.inr ⟨rfl, ih⟩)
theorem signs_pw : signs.Pairwise (fun s t => ∃ n m, cp s = [n] ∧ cp t = [m] ∧ n < m) := by
  have h : signs.map cp = [[59], [65], [97], [98], [65535], [65536]] := by decide +kernel
  have h2 : (signs.map cp).Pairwise (fun a b => ∃ n m, a = [n] ∧ b = [m] ∧ n < m) := by
    rw [h]
    simp
  rw [List.pairwise_map] at h2
  exact h2
theorem walk_pw {K : List Str} : ∀ (d : Nat) (f : Str), (walk K d f).Pairwise (fun a b => cp a < cp b)
  | 0, f => by simp [walk]
  | d + 1, f => by
    unfold walk
    by_cases hf : has K f = true
    · rw [if_pos hf]
      refine List.pairwise_cons.mpr ⟨fun x hx => ?_, ?_⟩
      · obtain ⟨s, hs, h⟩ := List.mem_flatMap.mp hx
        obtain ⟨n, _, e⟩ := signs_cps s hs
        have := (walk_mem h).1
        rw [cp_app, show cp s = [n] from e] at this
        exact prefix_lt this
      · rw [List.flatMap_def, List.pairwise_flatten]
        refine ⟨fun l hl => ?_, ?_⟩
        · obtain ⟨s, _, rfl⟩ := List.mem_map.mp hl
          exact walk_pw d _
        · rw [List.pairwise_map]
          refine signs_pw.imp ?_
          rintro s t ⟨n, m, e1, e2, hnm⟩ a ha b hb
          have h1 := (walk_mem ha).1
          have h2 := (walk_mem hb).1
          rw [cp_app, e1] at h1
          rw [cp_app, e2] at h2
          exact branch_lt hnm h1 h2
    · rw [if_neg hf]; exact List.Pairwise.nil
theorem sign_of {n : Nat} (h : n ∈ okC) : ∃ s ∈ signs, cp s = [n] := by
  have h0 : (okC.all fun n => signs.any fun s => decide (cp s = [n])) = true := by decide +kernel
  obtain ⟨s, hs, e⟩ := List.any_eq_true.mp (List.all_eq_true.mp h0 n h)
  exact ⟨s, hs, of_decide_eq_true e⟩
theorem walk_all {K : List Str} : ∀ {d : Nat} {f x : Str}, has K x = true → okT x → cp f <+: cp x → x.length < f.length + d → x ∈ walk K d f
  | 0, f, x, _, _, hp, hl => by
    have := hp.length_le
    rw [Array.length_toList, Array.length_toList] at this
    exact absurd hl (by simp only [Str.length]; omega)
  | d + 1, f, x, hx, hok, hp, hl => by
    unfold walk
    rw [if_pos (has_down hx hp)]
    obtain ⟨t, ht⟩ := hp
    cases t with
    | nil =>
      rw [List.append_nil] at ht
      rw [cp_inj ht]
      exact List.mem_cons_self ..
    | cons n t =>
      have hn : n ∈ okC := hok n (by rw [← (show cp x = x.cps.toList from rfl), ← ht]; simp)
      obtain ⟨s, hs, e⟩ := sign_of hn
      refine List.mem_cons_of_mem _ (List.mem_flatMap.mpr ⟨s, hs, ?_⟩)
      refine walk_all hx hok ?_ ?_
      · rw [cp_app, e, ← ht]
        exact ⟨t, by simp⟩
      · rw [Str.length_append, sign_len hs]; omega
theorem ok_down {x y : Str} (h : okT y) (hp : cp x <+: cp y) : okT x := fun n hn => h n (hp.subset hn)
theorem P5_pw (K : List Str) : (P5 K (Str.ofString "")).Pairwise (fun a b => cp a < cp b) := walk_pw _ _
theorem cp_empty : cp (Str.ofString "") = [] := by decide +kernel
theorem P5_mem {c : List (Str × Int)} (hb : BookOk c) {x : Str} : x ∈ P5 (keysOf c) (Str.ofString "") ↔ has (keysOf c) x = true := by
  constructor
  · exact fun h => (walk_mem h).2
  · intro h
    have hl := has_len hb h
    obtain ⟨k, hk, hp⟩ := has_iff.mp h
    obtain ⟨p, hp', rfl⟩ := List.mem_map.mp hk
    unfold P5
    exact walk_all h (ok_down (hb.ok p hp').1 hp) (by rw [cp_empty]; exact List.nil_prefix) (by rw [len_empty]; omega)
theorem sub_len {α : Type} [DecidableEq α] : ∀ {l m : List α}, l.Nodup → (∀ x ∈ l, x ∈ m) → l.length ≤ m.length
  | [], m, _, _ => Nat.zero_le _
  | a :: l, m, hn, hs => by
    obtain ⟨h1, h2⟩ := List.nodup_cons.mp hn
    have hm : a ∈ m := hs a (.head _)
    have := sub_len (m := m.erase a) h2 fun x hx => (List.mem_erase_of_ne (fun e => h1 (by rw [← e]; exact hx))).mpr (hs x (.tail _ hx))
    rw [List.length_erase_of_mem hm] at this
    have : 0 < m.length := List.length_pos_of_mem hm
    simp only [List.length_cons]
    omega
theorem lt_nodup {l : List Str} (h : l.Pairwise (fun a b => cp a < cp b)) : l.Nodup := h.imp fun {a b} hab e => by
  rw [e] at hab; exact List.lt_irrefl _ hab
theorem P5_len' {c : List (Str × Int)} (hb : BookOk c) (h7 : c.length ≤ 7) : (P5 (keysOf c) (Str.ofString "")).length ≤ 29 := by
  have hs := sub_len (m := [] :: (keysOf c).flatMap (fun k => [(cp k).take 1, (cp k).take 2, (cp k).take 3, (cp k).take 4])) (l := (P5 (keysOf c) (Str.ofString "")).map cp)
    ((List.pairwise_map.mpr ((P5_pw (keysOf c)).imp fun {a b} hab e => by rw [e] at hab; exact List.lt_irrefl _ hab))) (fun y hy => by
      obtain ⟨x, hx, rfl⟩ := List.mem_map.mp hy
      obtain ⟨k, hk, hp⟩ := has_iff.mp ((P5_mem hb).mp hx)
      have hl := has_len hb ((P5_mem hb).mp hx)
      have e := List.prefix_iff_eq_take.mp hp
      have hl' : (cp x).length = x.length := by rw [Array.length_toList]; rfl
      rw [hl'] at e
      rcases Nat.lt_or_ge 0 x.length with h0 | h0
      · refine List.mem_cons_of_mem _ (List.mem_flatMap.mpr ⟨k, hk, ?_⟩)
        rw [e]
        have : x.length = 1 ∨ x.length = 2 ∨ x.length = 3 ∨ x.length = 4 := by omega
        rcases this with q | q | q | q <;> rw [q] <;> simp
      · have : x.length = 0 := by omega
        rw [this] at e
        rw [e]; simp)
  rw [List.length_map, List.length_cons, List.length_flatMap] at hs
  have h4 : ((keysOf c).map (fun k => [(cp k).take 1, (cp k).take 2, (cp k).take 3, (cp k).take 4].length)).sum = 4 * (keysOf c).length := by
    generalize keysOf c = K
    induction K with
    | nil => rfl
    | cons a r ih => simp only [List.map_cons, List.sum_cons, List.length_cons, List.length_nil] at ih ⊢; rw [ih]; omega
  have h5 : (keysOf c).length = c.length := by rw [keysOf, List.length_map]
  rw [h4, h5] at hs
  omega
end Mine
namespace Mine
open PySem PyProof PySem.W PyProof.Rows PyProof.V PySem.Spec

def lb' (ss : List Str) (f : Str) : Nat := (ss.takeWhile fun x => ltS' x f).length
theorem has_none' {c : List (Str × Int)} {ss : List Str} {f : Str} (hs : sortedS ss = true) (hp : ss.Perm (keysOf c)) (h : lb' ss f = ss.length) : has (keysOf c) f = false := by
  cases hb : has (keysOf c) f with
  | false => rfl
  | true =>
    obtain ⟨k, hk, hx⟩ := has_iff.mp hb
    obtain ⟨i, hi, e⟩ := List.getElem_of_mem (hp.mem_iff.mpr hk)
    have := (tw_iff (f := f) (sorted_pw hs) (k := i) (x := k) (by rw [List.getElem?_eq_getElem hi, e])).mpr (by unfold lb' at h; omega)
    exact absurd (of_decide_eq_true this) (List.not_lt.mpr (pfx_le (List.isPrefixOf_iff_prefix.mpr hx)))
theorem has_some' {c : List (Str × Int)} {ss : List Str} {f x : Str} (hs : sortedS ss = true) (hp : ss.Perm (keysOf c)) (h : ss[lb' ss f]? = some x) : has (keysOf c) f = pfx f x := by
  have hxm : x ∈ ss := List.mem_of_getElem? h
  cases hb : pfx f x with
  | true => exact has_iff.mpr ⟨x, hp.mem_iff.mp hxm, pfx_iff.mp hb⟩
  | false =>
    cases ha : has (keysOf c) f with
    | false => rfl
    | true =>
      exfalso
      obtain ⟨k, hk, hx⟩ := has_iff.mp ha
      have hkp := List.isPrefixOf_iff_prefix.mpr hx
      obtain ⟨i, hi, e⟩ := List.getElem_of_mem (hp.mem_iff.mpr hk)
      have h1 : ltS' x f = false := by
        cases q : ltS' x f with
        | false => rfl
        | true => exact absurd ((tw_iff (f := f) (sorted_pw hs) h).mp q) (by unfold lb'; exact Nat.lt_irrefl _)
      have h2 : cp f ≤ cp x := List.not_lt.mp (of_decide_eq_false h1)
      have h3 : cp k < cp x := lt_of_pfx_lt hb h2 hkp
      have h4 : ¬ i < lb' ss f := fun q => by
        have := (tw_iff (f := f) (sorted_pw hs) (k := i) (x := k) (by rw [List.getElem?_eq_getElem hi, e])).mpr q
        exact absurd (of_decide_eq_true this) (List.not_lt.mpr (pfx_le hkp))
      have hlt : lb' ss f < ss.length := by
        rcases Nat.lt_or_ge (lb' ss f) ss.length with q | q
        · exact q
        · rw [List.getElem?_eq_none q] at h; cases h
      rcases Nat.lt_or_ge (lb' ss f) i with q | q
      · have h5 := List.pairwise_iff_getElem.mp (sorted_pw hs) _ _ hlt hi q
        rw [e] at h5
        rw [List.getElem?_eq_getElem hlt] at h
        rw [Option.some.inj h] at h5
        exact absurd h3 (List.not_lt.mpr h5)
      · have : i = lb' ss f := by omega
        subst this
        rw [List.getElem?_eq_getElem hi] at h
        rw [← Option.some.inj h, e] at h3
        exact List.lt_irrefl _ h3
theorem perm_of {a b : List Str} (ha : a.Nodup) (hb : b.Nodup) (h : ∀ x, x ∈ a ↔ x ∈ b) : a.Perm b := (List.perm_ext_iff_of_nodup ha hb).mpr fun x => h x
end Mine
namespace Mine
open PySem PyProof PySem.W PyProof.Rows PyProof.V PySem.Spec

def ltS (x y : Str) : Bool := decide (x.cps.toList < y.cps.toList)
def lb (ss : List Str) (f : Str) : Nat := (ss.takeWhile fun x => ltS x f).length
theorem lb_le (ss : List Str) (f : Str) : lb ss f ≤ ss.length := by
  unfold lb
  exact (List.takeWhile_prefix _).length_le
theorem lb_iff {ss : List Str} {f : Str} (hs : sortedS ss = true) {k : Nat} {x : Str} (hk : ss[k]? = some x) : ltS x f = true ↔ k < lb ss f := tw_iff (sorted_pw hs) hk
structure BsInv (ss : List Str) (f : Str) (i j : Int) : Prop where
  lo : 0 ≤ i
  le : i ≤ (lb ss f : Int)
  ge : (lb ss f : Int) ≤ j
  hi : j ≤ (ss.length : Int)
theorem BsInv.start {ss : List Str} {f : Str} {n : Nat} (h : ss.length = n) : BsInv ss f 0 (n : Int) :=
  ⟨Int.le_refl _, by omega, by have := lb_le ss f; omega, by omega⟩
theorem BsInv.up {ss : List Str} {f x : Str} {i j : Int} (h : BsInv ss f i j) (hs : sortedS ss = true) (hij : i < j) (hx : ss[((i + j).fdiv 2).toNat]? = some x) (hl : ltS x f = true) : BsInv ss f ((i + j).fdiv 2 + 1) j := by
  have := (lb_iff hs hx).mp hl
  have h0 := h.lo; have h1 := h.ge; have h2 := h.hi; have h3 := h.le
  have e : (i + j).fdiv 2 = (i + j) / 2 := Int.fdiv_eq_ediv_of_nonneg _ (by decide)
  rw [e] at this ⊢
  exact ⟨by omega, by omega, h1, h2⟩
theorem BsInv.down {ss : List Str} {f x : Str} {i j : Int} (h : BsInv ss f i j) (hs : sortedS ss = true) (hij : i < j) (hx : ss[((i + j).fdiv 2).toNat]? = some x) (hl : ltS x f = false) : BsInv ss f i ((i + j).fdiv 2) := by
  have hn : ¬ ((i + j).fdiv 2).toNat < lb ss f := fun q => by rw [(lb_iff hs hx).mpr q] at hl; cases hl
  have h0 := h.lo; have h1 := h.ge; have h2 := h.hi; have h3 := h.le
  have e : (i + j).fdiv 2 = (i + j) / 2 := Int.fdiv_eq_ediv_of_nonneg _ (by decide)
  rw [e] at hn ⊢
  exact ⟨h0, h3, by omega, by omega⟩
theorem BsInv.mid {ss : List Str} {f : Str} {i j : Int} (h : BsInv ss f i j) (hij : i < j) : 0 ≤ (i + j).fdiv 2 ∧ (i + j).fdiv 2 < (ss.length : Int) := by
  have h0 := h.lo; have h1 := h.ge; have h2 := h.hi; have h3 := h.le
  have e : (i + j).fdiv 2 = (i + j) / 2 := Int.fdiv_eq_ediv_of_nonneg _ (by decide)
  rw [e]; omega
theorem BsInv.out {ss : List Str} {f : Str} {i j : Int} (h : BsInv ss f i j) (hij : ¬ i < j) : i = (lb ss f : Int) := by
  have h0 := h.lo; have h1 := h.ge; have h2 := h.hi; have h3 := h.le
  omega
theorem P5_len {c : List (Str × Int)} (hb : BookOk c) (h7 : c.length ≤ 7) : (P5 (keysOf c) (Str.ofString "")).length ≤ 29 := P5_len' hb h7
theorem WInv.ps29 {c : List (Str × Int)} {ps fs as : List Str} (h : WInv c ps fs as) : ps.length ≤ 29 := by
  have := congrArg List.length h.walk
  rw [List.length_append] at this
  have := P5_len h.book h.few
  omega
theorem WInv.szP {c : List (Str × Int)} {ps fs as : List Str} (h : WInv c ps fs as) : ps.length ≤ 100000 := by have := h.ps29; omega
theorem WInv.szA {c : List (Str × Int)} {ps fs as : List Str} (h : WInv c ps fs as) : as.length ≤ 100000 := by have := h.ps29; have := h.size; omega
theorem WInv.szF {c : List (Str × Int)} {ps fs as : List Str} (h : WInv c ps fs as) : fs.length ≤ 100000 := by
  have := h.ps29
  rw [h.found]
  have := List.length_filter_le (kdpHas c) ps
  omega
/-- the answer of the trie -/
theorem has_key {c : List (Str × Int)} {f : Str} (h : kdpHas c f = true) : has (keysOf c) f = true := by
  obtain ⟨p, hp, e⟩ := List.any_eq_true.mp h
  refine List.any_eq_true.mpr ⟨p.1, List.mem_map.mpr ⟨p, hp, rfl⟩, ?_⟩
  rw [of_decide_eq_true e]
  exact List.isPrefixOf_iff_prefix.mpr (List.prefix_refl _)
theorem has_none {c : List (Str × Int)} {ss : List Str} {f : Str} (hs : sortedS ss = true) (hp : ss.Perm (keysOf c)) (h : lb ss f = ss.length) : has (keysOf c) f = false := has_none' hs hp h
theorem has_some {c : List (Str × Int)} {ss : List Str} {f x : Str} (hs : sortedS ss = true) (hp : ss.Perm (keysOf c)) (h : ss[lb ss f]? = some x) : has (keysOf c) f = pfx f x := has_some' hs hp h
theorem sw_pfx (x f : Str) : Txt.startswith x f = pfx f x := sw_pfx' x f
theorem sw_empty (x : Str) : Txt.startswith x (Str.ofString "") = true := by
  rw [sw_pfx]
  unfold pfx
  rw [show (Str.ofString "").cps.toList = [] from cp_empty]
  rfl

section
variable {prog : Program} {w : World} {A : Around} {E : Value → Shared → Prop} {Q : Flow → Shared → Prop} {s : Shared} {env : Env} {h₀ : Heap} {L : Addr}
/-- what a turn of the search must reach -/
def BEnd (h₀ : Heap) (L : Addr) (s : Shared) (led : List (Addr × Obj)) (a b x : Str) (m₀ : Str → Option Value) (P : Int → Int → Prop) (N : Nat) (s₂ : Shared) : Prop :=
  ∃ (i j : Int) (ti tj : Tok) (h' : Heap) (tk : Nat) (m' : Str → Option Value), s₂ = { s with heap := h', toks := tk } ∧ Fr h₀ L h' m' ∧ News h₀ L h' led ∧ m' a = some (.int i ti) ∧ m' b = some (.int j tj) ∧ (∀ z, z ≠ a → z ≠ b → z ≠ x → m' z = m₀ z) ∧ P i j ∧ (j - i).toNat < N
def BPost (h₀ : Heap) (L : Addr) (s : Shared) (led : List (Addr × Obj)) (a b x : Str) (m₀ : Str → Option Value) (P : Int → Int → Prop) (N : Nat) (f : Flow) (s₂ : Shared) : Prop :=
  match f with
  | .ret _ => False
  | .brk => False
  | _ => BEnd h₀ L s led a b x m₀ P N s₂
theorem BEnd.intro {led news' : List (Addr × Obj)} {a b x : Str} {m₀ m' : Str → Option Value} {P : Int → Int → Prop} {K : Nat} {i j : Int} {ti tj : Tok} {h' : Heap} {tk : Nat} (F : Fr h₀ L h' m') (N : News h₀ L h' news') (hs : ∀ p ∈ led, p ∈ news') (h1 : m' a = some (.int i ti)) (h2 : m' b = some (.int j tj))
    (hm : ∀ z, z ≠ a → z ≠ b → z ≠ x → m' z = m₀ z) (hp : P i j) (hl : (j - i).toNat < K) : BEnd h₀ L s led a b x m₀ P K { s with heap := h', toks := tk } :=
  ⟨i, j, ti, tj, h', tk, m', rfl, F, (fun p hp => N p (hs p hp)), h1, h2, hm, hp, hl⟩
theorem my_search {test : Expr} {body : List Stmt} {pos : Pos} {m₀ : Str → Option Value} {led : List (Addr × Obj)} (a b x : Str) {i0 j0 : Int} {t1 t2 : Tok} (P : Int → Int → Prop)
    (F : Fr h₀ L s.heap m₀) (N : News h₀ L s.heap led) (h1 : m₀ a = some (.int i0 t1)) (h2 : m₀ b = some (.int j0 t2)) (hp : P i0 j0)
    (turn : ∀ i j ti tj (u : Str → Option Value) h tk, P i j → Fr h₀ L h (fun z => if z = a then some (.int i ti) else if z = b then some (.int j tj) else if z = x then u z else m₀ z) → News h₀ L h led →
      wpAny (model prog w) A (isTrue test env (eval test env)) (fun bb s₂ =>
        if bb = true then wpAny (model prog w) A (execs body env) (BPost h₀ L s led a b x m₀ P (j - i).toNat) E s₂ else Q .next s₂) E { s with heap := h, toks := tk })
    (hE : PassesOwn (model prog w) A env E := by passes_own) :
    wpAny (model prog w) A (exec (.While test body [] pos) env) Q E s := by
  refine ksw_while (σ := Int × Int × Tok × Tok) (fun _ => led) (fun c => [(a, .int c.1 c.2.2.1), (b, .int c.2.1 c.2.2.2)]) (fun _ => True) [x] (fun c => P c.1 c.2.1) (fun c => (c.2.1 - c.1).toNat)
    (i0, j0, t1, t2) F N trivial (fun p hp => by
      rcases List.mem_cons.mp hp with rfl | hp
      · exact h1
      · rw [List.mem_singleton.mp hp]; exact h2) hp ?_ hE
  rintro ⟨i, j, ti, tj⟩ u h tk _ hP F₁ N₁
  have em : kstB (fun z => if ([x] : List Str).contains z then u z else m₀ z) [(a, Value.int i ti), (b, Value.int j tj)] = fun z => if z = a then some (.int i ti) else if z = b then some (.int j tj) else if z = x then u z else m₀ z := by
    funext z
    show (if z = a then _ else if z = b then _ else if ([x] : List Str).contains z = true then u z else m₀ z) = _
    by_cases hz : z = x
    · simp [hz]
    · simp [hz]
  rw [em] at F₁
  refine wpAny_mono (turn i j ti tj u h tk hP F₁ N₁) (fun bb s₂ p => ?_) fun _ _ x => x
  cases bb with
  | false => exact p
  | true =>
    simp only [if_true] at p ⊢
    refine wpAny_mono p (fun f s₃ q => ?_) fun _ _ x => x
    have fin : BEnd h₀ L s led a b x m₀ P (j - i).toNat s₃ →
        KswEnd h₀ L s (fun _ => led) (fun c : Int × Int × Tok × Tok => [(a, .int c.1 c.2.2.1), (b, .int c.2.1 c.2.2.2)]) (fun _ => True) [x] m₀ (fun c => P c.1 c.2.1) (fun c => (c.2.1 - c.1).toNat) (i, j, ti, tj) s₃ := by
      rintro ⟨i', j', ti', tj', h', tk', m', e, F', N', q1, q2, hm, hp', hl⟩
      refine ⟨(i', j', ti', tj'), h', tk', m', led, e, F', N', fun _ h => h, trivial, fun p hp => ?_, fun z h3 h4 => ?_, hp', hl⟩
      · rcases List.mem_cons.mp hp with rfl | hp
        · exact q1
        · rw [List.mem_singleton.mp hp]; exact q2
      · exact hm z (h3 _ (.head _)) (h3 _ (.tail _ (.head _))) (by simpa using h4)
    cases f with
    | ret v => exact q.elim
    | brk => exact q.elim
    | next => exact fin q
    | cont => exact fin q
end
end Mine
namespace Mine
open PySem PyProof PySem.W PyProof.Rows PyProof.V PySem.Spec

theorem kid_sz {c : List (Str × Int)} {ps fs as : List Str} {f x : Str} (h : WInv c ps fs (as ++ [f])) (hx : x ∈ signs) : f.length + x.length ≤ sizeLine := by
  have := h.lens f (List.mem_append_right _ (.head _))
  rw [sizeLine_eq, sign_len hx]; omega
theorem WInv.szA' {c : List (Str × Int)} {ps fs as : List Str} {f : Str} (h : WInv c ps fs (as ++ [f])) : as.length ≤ 100000 := by
  have := h.szA
  rw [List.length_append] at this
  omega
theorem WInv.yes1 {c : List (Str × Int)} {ps fs as : List Str} {f : Str} (h : WInv c ps fs (as ++ [f])) (hf : has (keysOf c) f = true) (hk : kdpHas c f = true) :
    WInv c (ps ++ [f]) (fs ++ [f]) (as ++ kids f) := by
  have := h.yes hf
  rwa [if_pos hk] at this
theorem WInv.yes0 {c : List (Str × Int)} {ps fs as : List Str} {f : Str} (h : WInv c ps fs (as ++ [f])) (hf : has (keysOf c) f = true) (hk : kdpHas c f = false) :
    WInv c (ps ++ [f]) fs (as ++ kids f) := by
  have := h.yes hf
  rwa [if_neg (by rw [hk]; exact Bool.false_ne_true)] at this
theorem kids_carried {f : Str} : (rangeKs 0 6).map (fun k => PyData.str (f ++ signs.getD (5 - k).toNat Str.empty)) = (kids f).map PyData.str := by
  have e : rangeKs 0 6 = [0, 1, 2, 3, 4, 5] := by decide
  rw [e]; rfl
section
variable {prog : Program} {w : World} {A : Around} {h₀ : Heap} {L : Addr} {m : Str → Option Value} {env : Env} {elt : Expr} {x : Str} {scope : Scope} {cl : List (Str × Addr)} {s : Shared} {S : List (Addr × Obj) → Prop} {P : Nat → Value → Prop} {Fin : List Value → List (Addr × Obj) → Prop} {news : List (Addr × Obj)}
theorem kids_range {c : List (Str × Int)} {ps fs as : List Str} {f : Str} (_hW : WInv c ps fs (as ++ [f]))
    (turn : ∀ k t I oI C oC D m₂ ys h tk (E' : Value → Shared → Prop), 0 ≤ k → k < 6 → LCg.NsObj oC m₂ → m₂ x = some (.int k t) → Fr h₀ L h m → News h₀ L h ((I, oI) :: (C, oC) :: (D, LCg.lst ys) :: news) → LCg.Off3 I C D news → ((@Ne Nat I C) ∧ (@Ne Nat I D) ∧ (@Ne Nat C D)) →
      wpAny (model prog w) A (eval elt (compEnvC scope cl C env)) (LCg.CompEnd h₀ L m { s with heap := h, toks := tk } I oI C oC D (LCg.lst ys) S (fun y news' => KCtEl news (f ++ signs.getD (5 - k).toNat Str.empty) y news')) E' { s with heap := h, toks := tk })
    (fin : ∀ ys, StrsAre ys (kids f) → Fin ys news) : LCg.CompRest prog w A h₀ L m env elt x scope cl s S (fun i v => ∃ t, v = .int (0 + (i : Int)) t) Fin 6 0 [] news :=
  kct_range (n := 6) (a := 0) (fun k => f ++ signs.getD (5 - k).toNat Str.empty) (fun k t I oI C oC D m₂ ys h tk E' h0 h1 hC hx F N off ne _ => turn k t I oI C oC D m₂ ys h tk E' h0 (by omega) hC hx F N off ne)
    (by
      intro ys hc _
      rw [kids_carried] at hc
      exact fin ys (StrsAre.of_carried hc))
end
theorem at_lo {k : Int} (h : k < 6) : 0 ≤ 5 - k := by omega
theorem at_hi {k : Int} (h : 0 ≤ k) : 5 - k < (signs.length : Int) := by show 5 - k < 6; omega
theorem at_fit {k : Int} (h : 0 ≤ k) : 5 - k < 2 ^ 63 := by omega
theorem sz7 {c : List (Str × Int)} {ss : List Str} {n : Int} (h : BkInv (rangeKs 0 ((if n < 7 then n else 7) - 0).toNat) c) (hp : ss.Perm (keysOf c)) : ss.length ≤ 100000 := by
  have := h.fin
  have e := hp.length_eq
  rw [keysOf, List.length_map] at e
  omega
theorem fm6 (n : Int) : 0 ≤ n.fmod 6 ∧ n.fmod 6 < 6 := ⟨fmod_lo _ (by decide), fmod_hi _ (by decide)⟩
theorem fm5 (n : Int) : 0 ≤ n.fmod 5 ∧ n.fmod 5 < 5 := ⟨fmod_lo _ (by decide), fmod_hi _ (by decide)⟩
theorem fm5n (n : Int) : (n.fmod 5 - 0).toNat ≤ 4 := by have := fm5 n; omega
theorem txt_sz {pre : List Int} {n : Int} {t x : Str} {N : Nat} (h : TxtInv pre n t) (hl : pre.length < N) (hN : N ≤ 4) (hx : x ∈ signs) : t.length + x.length ≤ sizeLine := by
  rw [sizeLine_eq, h.len, sign_len hx]; omega
theorem end_book {prog : Program} {w : World} {h₀ : Heap} {d : Addr} {rest : List (Addr × Obj)} {x : Str} {m₀ : Str → Option Value} {P : List Int → (Obj × List (Str × Value) × List (Str × Int)) → Prop} {pre : List Int} {L : Addr} {m' : Str → Option Value}
    {own news' : List (Addr × Obj)} {adr : List Addr} {s₁ : Shared} {h' : Heap} {tk : Nat} {o' : Obj} {kvs' : List (Str × Value)} {c' : List (Str × Int)} (F : Fr h₀ L h' m') (N : News h₀ L h' news') (hd' : o'.IsDictOf (PySem.strKind prog w) kvs') (hf' : V.FlatPairs PyData.str kvs' (kdpD c'))
    (hP : P pre (o', kvs', c')) (h1 : (d, o') ∈ news') (hr : ∀ p ∈ rest, p ∈ news') (ho : ∀ p ∈ own, p ∈ news') (ha : d :: rest.map (·.1) = adr) (hm : ∀ z, z ≠ x → m' z = m₀ z) :
    InvEndN h₀ L (KstS (fun c => (d, c.1) :: rest) (fun _ => []) (fun c => c.1.IsDictOf (PySem.strKind prog w) c.2.1 ∧ V.FlatPairs PyData.str c.2.1 (kdpD c.2.2)) x [] m₀ P pre) own adr s₁ { s₁ with heap := h', toks := tk } :=
  kst_end (o', kvs', c') F N (fun p hp => (List.mem_cons.mp hp).elim (fun e => e ▸ h1) (hr p)) ho ha ⟨hd', hf'⟩ (fun _ h => nomatch h) (fun z h _ _ => hm z h) hP
theorem end_text {h₀ : Heap} {led : List (Addr × Obj)} {x a b : Str} {m₀ : Str → Option Value} {P : List Int → (Int × Tok × Str × Tok) → Prop} {pre : List Int} {L : Addr} {m' : Str → Option Value}
    {own news' : List (Addr × Obj)} {adr : List Addr} {s₁ : Shared} {h' : Heap} {tk : Nat} {n : Int} {tn : Tok} {t : Str} {tt : Tok} (F : Fr h₀ L h' m') (N : News h₀ L h' news')
    (hP : P pre (n, tn, t, tt)) (hr : ∀ p ∈ led, p ∈ news') (ho : ∀ p ∈ own, p ∈ news') (ha : led.map (·.1) = adr) (h1 : m' a = some (.int n tn)) (h2 : m' b = some (.str t tt)) (hm : ∀ z, z ≠ x → z ≠ a → z ≠ b → m' z = m₀ z) :
    InvEndN h₀ L (KstS (fun _ => led) (fun c => [(a, .int c.1 c.2.1), (b, .str c.2.2.1 c.2.2.2)]) (fun _ => True) x [] m₀ P pre) own adr s₁ { s₁ with heap := h', toks := tk } :=
  kst_end (n, tn, t, tt) F N hr ho ha trivial (fun p hp => by
    rcases List.mem_cons.mp hp with rfl | hp
    · exact h1
    · rw [List.mem_singleton.mp hp]; exact h2) (fun z h h' _ => hm z h (h' _ (.head _)) (h' _ (.tail _ (.head _)))) hP
end Mine
namespace Mine
open PySem PyProof PySem.W PyProof.Rows PyProof.V PySem.Spec

theorem getD_some {ss : List Str} {k : Nat} (h : k < ss.length) : ss[k]? = some (ss.getD k Str.empty) := by
  simp [List.getD_eq_getElem?_getD, List.getElem?_eq_getElem h]
theorem BsInv.mid0 {ss : List Str} {f : Str} {i j : Int} (h : BsInv ss f i j) (hij : i < j) : 0 ≤ (i + j).fdiv 2 := (h.mid hij).1
theorem BsInv.mid1 {ss : List Str} {f : Str} {i j : Int} (h : BsInv ss f i j) (hij : i < j) : (i + j).fdiv 2 < (ss.length : Int) := (h.mid hij).2
theorem BsInv.fit {ss : List Str} {f : Str} {i j : Int} (h : BsInv ss f i j) (hij : i < j) (h7 : ss.length ≤ 100000) : (i + j).fdiv 2 < 2 ^ 63 := by
  have := (h.mid hij).2; omega
theorem BsInv.at {ss : List Str} {f : Str} {i j : Int} (h : BsInv ss f i j) (hij : i < j) : ss[((i + j).fdiv 2).toNat]? = some (ss.getD ((i + j).fdiv 2).toNat Str.empty) :=
  getD_some (by have := h.mid hij; omega)
theorem BsInv.up' {ss : List Str} {f : Str} {i j : Int} (h : BsInv ss f i j) (hs : sortedS ss = true) (hij : i < j) (hl : (ss.getD ((i + j).fdiv 2).toNat Str.empty).cps.toList < f.cps.toList) : BsInv ss f ((i + j).fdiv 2 + 1) j :=
  h.up hs hij (h.at hij) (decide_eq_true hl)
theorem BsInv.down' {ss : List Str} {f : Str} {i j : Int} (h : BsInv ss f i j) (hs : sortedS ss = true) (hij : i < j) (hl : ¬ (ss.getD ((i + j).fdiv 2).toNat Str.empty).cps.toList < f.cps.toList) : BsInv ss f i ((i + j).fdiv 2) :=
  h.down hs hij (h.at hij) (decide_eq_false hl)
theorem BsInv.lessU {ss : List Str} {f : Str} {i j : Int} (h : BsInv ss f i j) (hij : i < j) : (j - ((i + j).fdiv 2 + 1)).toNat < (j - i).toNat := by
  have e : (i + j).fdiv 2 = (i + j) / 2 := Int.fdiv_eq_ediv_of_nonneg _ (by decide)
  have := h.lo
  rw [e]; omega
theorem BsInv.lessD {ss : List Str} {f : Str} {i j : Int} (h : BsInv ss f i j) (hij : i < j) : ((i + j).fdiv 2 - i).toNat < (j - i).toNat := by
  have e : (i + j).fdiv 2 = (i + j) / 2 := Int.fdiv_eq_ediv_of_nonneg _ (by decide)
  have := h.lo
  rw [e]; omega
theorem BsInv.none {c : List (Str × Int)} {ss : List Str} {f : Str} {i j : Int} (h : BsInv ss f i j) (hij : ¬ i < j) (hs : sortedS ss = true) (hp : ss.Perm (c.map (·.1))) (he : i = (ss.length : Int)) : has (keysOf c) f = false := by
  have e := h.out hij
  exact has_none hs hp (by omega)
theorem BsInv.in0 {ss : List Str} {f : Str} {i j : Int} (h : BsInv ss f i j) : 0 ≤ i := h.lo
theorem BsInv.in1 {ss : List Str} {f : Str} {i j : Int} (h : BsInv ss f i j) (hij : ¬ i < j) (he : ¬ i = (ss.length : Int)) : i < (ss.length : Int) := by
  have e := h.out hij
  have := lb_le ss f
  omega
theorem BsInv.in2 {ss : List Str} {f : Str} {i j : Int} (h : BsInv ss f i j) (hij : ¬ i < j) (h7 : ss.length ≤ 100000) : i < 2 ^ 63 := by
  have e := h.out hij
  have := lb_le ss f
  omega
theorem BsInv.some {c : List (Str × Int)} {ss : List Str} {f : Str} {i j : Int} (h : BsInv ss f i j) (hij : ¬ i < j) (hs : sortedS ss = true) (hp : ss.Perm (c.map (·.1))) (he : ¬ i = (ss.length : Int)) :
    has (keysOf c) f = Txt.startswith (ss.getD i.toNat Str.empty) f := by
  have e := h.out hij
  have := h.in1 hij he
  rw [sw_pfx]
  have e2 : i.toNat = lb ss f := by omega
  rw [e2]
  exact has_some hs hp (getD_some (by omega))
theorem BsInv.start' {c : List (Str × Int)} {ps fs as ss : List Str} {f : Str} (_h : WInv c ps fs (as ++ [f])) (hp : ss.Perm (c.map (·.1))) : BsInv ss f 0 (c.length : Int) :=
  BsInv.start (by have := hp.length_eq; rwa [List.length_map] at this)
theorem less_no {as ps : List Str} {f : Str} : as.length + 7 * (32 - ps.length) < (as ++ [f]).length + 7 * (32 - ps.length) := by
  rw [List.length_append]; simp
theorem less_yes {c : List (Str × Int)} {ps fs as : List Str} {f : Str} (h : WInv c ps fs (as ++ [f])) : (as ++ kids f).length + 7 * (32 - (ps ++ [f]).length) < (as ++ [f]).length + 7 * (32 - ps.length) := by
  have := h.ps29
  simp only [List.length_append, kids, List.length_cons, List.length_nil]
  omega
theorem wm1 {m : Str → Option Value} {a : Str} {v : Value} (h : m a = some v) : ∀ z, (if z = a then some v else m z) = m z := by
  intro z
  by_cases e : z = a
  · rw [if_pos e, e, h]
  · rw [if_neg e]
theorem lt32 {c : List (Str × Int)} {ps fs as : List Str} (h : WInv c ps fs as) : (ps.length : Int) < 32 := by have := h.ps29; omega
theorem front_63 {c : List (Str × Int)} {ps fs as : List Str} {f : Str} (h : WInv c ps fs (as ++ [f])) : (f.length : Int) < 9223372036854775808 := by
  have := h.lens f (List.mem_append_right _ (.head _))
  omega
theorem front_small {c : List (Str × Int)} {ps fs as : List Str} {f : Str} (h : WInv c ps fs (as ++ [f])) : Builtin.Range.small 1 ((f.length : Int) + 1) 1 = true := by
  have := h.lens f (List.mem_append_right _ (.head _))
  exact small_one (by omega) (by omega) (by omega) (by omega)
section
variable {prog : Program} {w : World} {A : Around} {E : Value → Shared → Prop} {s : Shared} {env : Env} {h₀ : Heap} {x : Str} {body : List Stmt} {Q : Flow → Shared → Prop}
/-- the loop that shortens the front -/
theorem front_range {c : List (Str × Int)} {ps fs as : List Str} {f : Str} (hW : WInv c ps fs (as ++ [f])) {r : Addr} {t₀ u₀ v₀ : Tok} {m₀ : Str → Option Value} {led : List (Addr × Obj)} (hh : A.handled = none)
    (hr : IsRange s.heap r 1 ((f.length : Int) + 1) 1 t₀ u₀ v₀) (F : Fr h₀ env.locals s.heap m₀) (N : News h₀ env.locals s.heap led)
    (turn : ∀ k t h tk own, 1 ≤ k → k ≤ (f.length : Int) → OwnOff own (led.map (·.1)) → Fr h₀ env.locals h (fun y => if y = x then some (.int k t) else m₀ y) → News h₀ env.locals h (led ++ own) →
      wpAny (model prog w) A (execs body env) (InvPostN h₀ env.locals (fun m' nx => nx = led ∧ ∀ z, z ≠ x → m' z = m₀ z) own (led.map (·.1)) { s with heap := h, toks := tk } Q) E { s with heap := h, toks := tk })
    (done : ∀ (u : Str → Option Value) h tk, Fr h₀ env.locals h (fun y => if y = x then u y else m₀ y) → News h₀ env.locals h led → Q .next { s with heap := h, toks := tk }) :
    wpAny (model prog w) A (pyIter (.ref r)) (fun it s₂ => LoopAtV prog w A h₀ env x body Q E it s₂) E s := by
  have eb : ∀ (u : Str → Option Value), kstB (fun z => if ([] : List Str).contains z then u z else m₀ z) [] = m₀ := fun u => rfl
  refine kst_range (σ := Unit) (fun _ => led) (fun _ => []) (fun _ => True) [] (fun _ _ => True) () hh hr (front_small hW) (rangeSize_nat _ _) F N trivial (fun _ h => nomatch h) trivial ?_ ?_
  · intro _ pre k t u h tk own hk hlt hoff _ _ F₁ N₁
    rw [eb] at F₁
    refine wpAny_mono (turn k t h tk own (by omega) (by omega) hoff F₁ N₁) (fun fl s₂ p => ?_) fun _ _ e => e
    have up : InvEndN h₀ env.locals (fun m' nx => nx = led ∧ ∀ z, z ≠ x → m' z = m₀ z) own (led.map (·.1)) { s with heap := h, toks := tk } s₂ →
        InvEndN h₀ env.locals (KstS (fun _ : Unit => led) (fun _ => []) (fun _ => True) x [] m₀ (fun _ _ => True) (pre ++ [k])) own (led.map (·.1)) { s with heap := h, toks := tk } s₂ := by
      rintro ⟨h', tk', m', news', nx', e', F', N', hn', ho', ha, e, hm⟩
      exact ⟨h', tk', m', news', nx', e', F', N', hn', ho', ha, (), e, trivial, (fun _ h => nomatch h), (fun z h1 _ _ => hm z h1), trivial⟩
    cases fl with
    | ret v => exact p
    | brk => exact p
    | next => exact up p
    | cont => exact up p
  · intro _ u h tk _ _ F₁ N₁
    rw [eb] at F₁
    exact done u h tk F₁ N₁
theorem front_end {led : List (Addr × Obj)} {m₀ : Str → Option Value} {L : Addr} {m' : Str → Option Value} {own news' : List (Addr × Obj)} {adr : List Addr} {s₁ : Shared} {h' : Heap} {tk : Nat} (F : Fr h₀ L h' m') (N : News h₀ L h' news')
    (hr : ∀ p ∈ led, p ∈ news') (ho : ∀ p ∈ own, p ∈ news') (ha : led.map (·.1) = adr) (hm : ∀ z, z ≠ x → m' z = m₀ z) :
    InvEndN h₀ L (fun m' nx => nx = led ∧ ∀ z, z ≠ x → m' z = m₀ z) own adr s₁ { s₁ with heap := h', toks := tk } :=
  InvEndN.intro F N ⟨rfl, hm⟩ ha hr ho
end
section
variable {prog : Program} {w : World} {A : Around} {E : Value → Shared → Prop} {s : Shared}
theorem lt_true {a b : Int} {t u : Tok} {Q : Value → Shared → Prop} (h : a < b) (q : Q (.bool true) s) : wpAny (model prog w) A (compareOp .Lt (.int a t) (.int b u)) Q E s :=
  lt_int (by rw [decide_eq_true h]; exact q)
theorem eq_same {x : Str} {t u : Tok} {Q : Value → Shared → Prop} (q : Q (.bool true) s) : wpAny (model prog w) A (compareOp .Eq (.str x t) (.str x u)) Q E s :=
  P.eq_str (by rw [beq_self_eq_true]; exact q)
theorem truthy_sw {x : Str} {Q : Bool → Shared → Prop} (h : Q true s) : wpAny (model prog w) A (truthy (.bool (Txt.startswith x (Str.ofString "")))) Q E s := by
  rw [sw_empty]; exact wpAny_truthy_bool h
end
end Mine
namespace Mine
open PySem PyProof PySem.W PyProof.Rows PyProof.V PySem.Spec PySem.Calls

section
variable {prog : Program} {w : World} {A₀ A : Around} {s : Shared} {base h₀ : Heap} {L : Addr} {m : Str → Option Value} {env : Env} {news : List (Addr × Obj)} {K : Frag} {p : Program} {loose : List Str} {mean : ExcName → Option Value} {mg mb : Str → Option Value}
    {R : Result → Shared → Prop} {name qual : Str} {params : Arguments} {body : List Stmt} {scope : Scope} {dV kV doc pm cdv ct oc : Value} {an od : Option Addr} {osl : Array (Option Value)} {f : Addr} {args : Args} {binds : List (Str × Value)}

/-- a def that catches, called out of a frame that has cells -/
theorem call_catching (B : Below A₀ base [] h₀) (F : Fr h₀ L s.heap m) (X₀ : K.In h₀) (N : News h₀ L s.heap news) (T : Top p loose mean mg mb h₀) (hA : A.frames = some [env]) (hf : env.frame = some L) (hke : env.scope.kind = .function)
    (ho : K.lookup f = some ⟨oc, od, .func (fnOf name qual params body scope dV kV doc pm an cdv ct), osl⟩) (hcd : codeIn K cdv qual = true) (hroom : A.depth < recursionLimit)
    (hbind : BindsTo s (fnOf name qual params body scope dV kV doc pm an cdv ct) args binds) (hloc : ∀ y ∈ binds, scope.names.lookup y.1 = some .local)
    (h : ∀ g L' h₁, Fr h₀ L g m → Fr g L' h₁ (fun y => binds.reverse.lookup y) → News g L' h₁ news → Below A base [env] g → K.In g → Top p loose mean mg mb g → KtsDicts ([env].filterMap (·.frame)) g →
      wpAny (model prog w) (A.deeper (envOf qual scope L' f cdv)) (execs body (envOf qual scope L' f cdv))
        (fun fl s' => LeaveS0 ([env].filterMap (·.frame)) h₀ L m g R (match fl with | .ret v => v | _ => .none) s')
        (fun e s' => wpAny (model prog w) (A.deeper (envOf qual scope L' f cdv)) (leaving (envOf qual scope L' f cdv) e) (fun _ s'' => R (.error e) s'') (fun e' s'' => R (.error e') s'') s')
        { s with heap := h₁, toks := s.toks + binds.length })
    (hco : scope.isCoroutine = false) (hgen : scope.isGenerator = false) (hk : scope.kind = .function)
    (hcell : ∀ x ∈ scope.names, x.2 ≠ .cell) : codeAny (model prog w) A (.call (.ref f) args) R s := by
  have hL₀ : h₀.get? L = none := kts_self F
  have hfs : [env].filterMap (·.frame) = [L] := by simp [hf]
  rw [hfs] at h
  have out : ∀ b o, h₀.get? b = some o → b ∉ news.map (·.1) := fun b o e q => by
    obtain ⟨x, hx, rfl⟩ := List.mem_map.mp q
    rw [(N x hx).2.2] at e; cases e
  have nL : L ∉ news.map (·.1) := fun q => by
    obtain ⟨x, hx, e⟩ := List.mem_map.mp q
    exact (N x hx).2.1 e
  have st : ∀ b o, h₀.get? b = some o → (hideAll s.heap (news.map (·.1))).get? b = some o := fun b o e => hideAll_get _ (F.keep b o e) (out b o e)
  have F₁ : Fr h₀ L (hideAll s.heap (news.map (·.1))) m := ⟨F.ns.at' fun o e => hideAll_get _ e nL, st, F.above⟩
  have B₁ := pushX B F₁ hf hke
  have X := X₀.keeps F.keep
  refine codeAny_call_def (fd := fnOf name qual params body scope dV kV doc pm an cdv ct) (body := body) (binds := binds) hroom (X _ _ ho) rfl (T.nolimit.keeps F.keep) (codeRec_of X hcd) rfl hbind hcell hloc (fun h₁ hns hk₁ => ?_) hco hgen hk
  obtain ⟨oL, es, ep, hLg, hLd, hLr⟩ := F₁.ns
  have F₂ : Fr (hideAll s.heap (news.map (·.1))) s.heap.objs.size h₁ (fun y => binds.reverse.lookup y) := ⟨hns, fun b o e => hk₁ b o (of_hideAll _ e), Nat.le_of_eq (hideAll_size _ _)⟩
  have N₂ : News (hideAll s.heap (news.map (·.1))) s.heap.objs.size h₁ news := fun x hx => ⟨hk₁ _ _ (N x hx).1, Nat.ne_of_lt (Heap.lt_size (N x hx).1), hideAll_none _ (List.mem_map_of_mem hx)⟩
  refine wpAny_mono (h _ s.heap.objs.size h₁ F₁ F₂ N₂ ⟨hA, B₁.stays, B₁.frames⟩ (X₀.keeps st) (T.keeps st) (fun b hb => by
      rw [List.mem_singleton.mp hb]; exact ⟨oL, es, ep, hLg, hLd⟩)) (fun fl s' hl => ?_) fun _ _ y => y
  obtain ⟨g', L', m', news', T', F', N', k⟩ := hl
  obtain ⟨sl, hs⟩ := T'.up hLg
  refine k ⟨⟨_, es, ep, F'.keep _ _ hs, hLd, hLr⟩, fun b o e => F'.keep b o (T'.other b o (st b o e) fun q => ?_), F.above⟩ fun x hx => ⟨(N' x hx).1, fun q => ?_, ?_⟩
  · rw [List.mem_singleton.mp q, hL₀] at e; cases e
  · have z := (N' x hx).2.2
    rw [q, hs] at z; cases z
  · cases q : h₀.get? x.1 with
    | none => rfl
    | some o =>
      obtain ⟨sl', hs'⟩ := T'.up (st _ _ q)
      have z := (N' x hx).2.2
      rw [hs'] at z; cases z
end
theorem drop12 {h₀ h : Heap} {L : Addr} {x1 x2 x3 x4 x5 x6 x7 x8 x9 x10 x11 x12 : Addr × Obj} {own : List (Addr × Obj)} (N : News h₀ L h (x1 :: x2 :: x3 :: x4 :: x5 :: x6 :: x7 :: x8 :: x9 :: x10 :: x11 :: x12 :: own)) :
    News h₀ L h [x1, x2, x3, x4, x5, x6, x7, x8, x9, x10, x11, x12] := fun p hp => N p (by
  simp only [List.mem_cons, List.not_mem_nil, or_false] at hp ⊢
  rcases hp with h | h | h | h | h | h | h | h | h | h | h | h <;> simp [h])
theorem front_sz {c : List (Str × Int)} {ps fs as : List Str} {f : Str} (h : WInv c ps fs (as ++ [f])) : f.length ≤ sizeLine := by
  have := h.lens f (List.mem_append_right _ (.head _))
  rw [sizeLine_eq]; omega
theorem cut_len {f : Str} {k : Int} (h0 : 1 ≤ k) (h1 : k ≤ (f.length : Int)) : (Txt.slice f none (some (-k))).length < f.length := cut_len' h0 h1
section
variable {prog : Program} {w : World} {A : Around} {E : Value → Shared → Prop} {s : Shared}
theorem eq_cut {f : Str} {k : Int} {t u : Tok} {Q : Value → Shared → Prop} (h0 : 1 ≤ k) (h1 : k ≤ (f.length : Int)) (q : Q (.bool false) s) : wpAny (model prog w) A (compareOp .Eq (.str (Txt.slice f none (some (-k))) t) (.str f u)) Q E s := by
  refine P.eq_str ?_
  have hne : ((Txt.slice f none (some (-k))).cps.toList == f.cps.toList) = false := by
    apply beq_eq_false_iff_ne.mpr
    intro e
    have h2 := cut_len h0 h1
    have h3 := congrArg List.length e
    simp only [Array.length_toList] at h3
    simp only [Str.length] at h2
    omega
  rw [hne]; exact q
end
end Mine
namespace Mine
open PySem PyProof PySem.W PyProof.Rows PyProof.V PySem.Spec PySem.Calls

def FLed (lR dB cK cR : Addr) (ob : Obj) (r1 r2 r3 r4 r5 r6 r7 r8 r9 : Addr × Obj) (rv : List Value) (rn : Nat) (ck cr : Obj) : List (Addr × Obj) :=
  [(lR, listOf rv.toArray rn), r1, r2, r3, r4, r5, r6, r7, r8, (dB, ob), (cK, ck), (cR, cr), r9]
def FEnd (h₀ : Heap) (L : Addr) (s : Shared) (lR dB cK cR : Addr) (ob : Obj) (r1 r2 r3 r4 r5 r6 r7 r8 r9 it : Addr × Obj) (m₀ : Str → Option Value) (P : List Str → List Str → Prop) (done : List Str) (s₂ : Shared) : Prop :=
  ∃ (rv : List Value) (rs : List Str) (rn : Nat) (ck cr : Obj) (v : Option Value) (h' : Heap) (tk : Nat) (m' : Str → Option Value) (news' : List (Addr × Obj)), s₂ = { s with heap := h', toks := tk } ∧ Fr h₀ L h' m' ∧ News h₀ L h' news' ∧
    (∀ p ∈ FLed lR dB cK cR ob r1 r2 r3 r4 r5 r6 r7 r8 r9 rv rn ck cr, p ∈ news') ∧ it ∈ news' ∧ StrsAre rv rs ∧ ck.data = .cell v ∧ cr.data = .cell (some (.ref lR)) ∧ (∀ z, m' z = m₀ z) ∧ P done rs
def FPost (h₀ : Heap) (L : Addr) (s : Shared) (lR dB cK cR : Addr) (ob : Obj) (r1 r2 r3 r4 r5 r6 r7 r8 r9 it : Addr × Obj) (m₀ : Str → Option Value) (P : List Str → List Str → Prop) (done : List Str) (f : Flow) (s₂ : Shared) : Prop :=
  match f with
  | .ret _ => False
  | .brk => False
  | _ => FEnd h₀ L s lR dB cK cR ob r1 r2 r3 r4 r5 r6 r7 r8 r9 it m₀ P done s₂
section
variable {prog : Program} {w : World} {A : Around} {E : Value → Shared → Prop} {Q : Flow → Shared → Prop} {s : Shared} {env : Env} {h₀ : Heap} {L : Addr}
theorem FEnd.intro {m₀ m' : Str → Option Value} {lR dB cK cR : Addr} {ob : Obj} {r1 r2 r3 r4 r5 r6 r7 r8 r9 it : Addr × Obj} {P : List Str → List Str → Prop} {done : List Str} {h' : Heap} {tk : Nat} {news' : List (Addr × Obj)}
    {rv : List Value} {rs : List Str} {rn : Nat} {ck cr : Obj} {v : Option Value}
    (F : Fr h₀ L h' m') (N : News h₀ L h' news') (h1 : (lR, listOf rv.toArray rn) ∈ news') (h2 : (cK, ck) ∈ news') (h3 : (cR, cr) ∈ news') (hr : ∀ p ∈ [r1, r2, r3, r4, r5, r6, r7, r8, (dB, ob), r9, it], p ∈ news')
    (f1 : StrsAre rv rs) (f2 : ck.data = .cell v) (f3 : cr.data = .cell (some (.ref lR))) (hm : ∀ z, m' z = m₀ z) (hp : P done rs) :
    FEnd h₀ L s lR dB cK cR ob r1 r2 r3 r4 r5 r6 r7 r8 r9 it m₀ P done { s with heap := h', toks := tk } := by
  simp only [List.mem_cons, List.not_mem_nil, or_false, forall_eq_or_imp, forall_eq] at hr
  obtain ⟨q1, q2, q3, q4, q5, q6, q7, q8, q9, q10, q11⟩ := hr
  refine ⟨rv, rs, rn, ck, cr, v, h', tk, m', news', rfl, F, N, ?_, q11, f1, f2, f3, hm, hp⟩
  intro p hp
  simp only [FLed, List.mem_cons, List.not_mem_nil, or_false] at hp
  rcases hp with rfl | rfl | rfl | rfl | rfl | rfl | rfl | rfl | rfl | rfl | rfl | rfl | rfl <;> assumption

theorem my_for {x : Str} {px pos : Pos} {y : Str} {py : Pos} {body : List Stmt} {m₀ : Str → Option Value} {lR dB cK cR : Addr} {ob : Obj} {r1 r2 r3 r4 r5 r6 r7 r8 r9 : Addr × Obj} {n0 : Nat} {ck0 cr0 : Obj} {v0 : Option Value} {kvs : List (Str × Value)} {c : List (Str × Int)} (P : List Str → List Str → Prop)
    (hh : A.handled = none) (F : Fr h₀ L s.heap m₀) (N : News h₀ L s.heap (FLed lR dB cK cR ob r1 r2 r3 r4 r5 r6 r7 r8 r9 [] n0 ck0 cr0)) (hLe : env.locals = L)
    (hne : (∀ q ∈ [r1, r2, r3, r4, r5, r6, r7, r8, r9], q.1 ≠ cK) ∧ lR ≠ cK ∧ dB ≠ cK ∧ cR ≠ cK)
    (lo : (dB == sysModules) = false) (hd : ob.IsDictOf (PySem.strKind prog w) kvs) (hf : FlatPairs PyData.str kvs (kdpD c)) (h2 : ck0.data = .cell v0) (h3 : cr0.data = .cell (some (.ref lR))) (hp : P [] [])
    (he : ∀ (Q' : Value → Shared → Prop), Q' (.ref dB) s → wpAny (model prog w) A (eval (.Name y py) env) Q' E s)
    (hst : ∀ (v : Value) (Q' : Unit → Shared → Prop) (E' : Value → Shared → Prop) (s₁ : Shared) (o : Obj) (v₀ : Option Value), s₁.heap.get? cK = some o → o.data = .cell v₀ →
      (∀ h' o', h'.get? cK = some o' → o'.data = .cell (some v) → Heap.SameBut cK s₁.heap h' → Q' () { s₁ with heap := h' }) → wpAny (model prog w) A (storeName env x v) Q' E' s₁)
    (turn : ∀ (pre post : List Str) (k : Str) t rv rs rn ck cr I oI h tk, keysOf c = pre ++ k :: post → StrsAre rv rs → P pre rs → ck.data = .cell (some (.str k t)) → cr.data = .cell (some (.ref lR)) →
      AllLt I (FLed lR dB cK cR ob r1 r2 r3 r4 r5 r6 r7 r8 r9 rv rn ck cr) → Fr h₀ L h m₀ →
      News h₀ L h [(lR, listOf rv.toArray rn), r1, r2, r3, r4, r5, r6, r7, r8, (dB, ob), (cK, ck), (cR, cr), r9, (I, oI)] →
      wpAny (model prog w) A (execs body env) (FPost h₀ L s lR dB cK cR ob r1 r2 r3 r4 r5 r6 r7 r8 r9 (I, oI) m₀ P (pre ++ [k])) (fun _ _ => False) { s with heap := h, toks := tk })
    (done : ∀ rv rs rn ck cr v h tk, StrsAre rv rs → P (keysOf c) rs → ck.data = .cell v → cr.data = .cell (some (.ref lR)) → Fr h₀ L h m₀ → News h₀ L h [(lR, listOf rv.toArray rn), r1, r2, r3, r4, r5, r6, r7, r8, (dB, ob), (cK, ck), (cR, cr), r9] → Q .next { s with heap := h, toks := tk }) :
    wpAny (model prog w) A (exec (.For (.Name x px) (.Name y py) body [] pos) env) Q E s := by
  subst hLe
  obtain ⟨hne1, hneR, hneB, hneC⟩ := hne
  obtain ⟨ep, ha⟩ := KdkAt.of hd
  have hK : kvs.map (·.1) = keysOf c := keys_eq hf
  have hdm : ∀ rv rn ck cr, (dB, ob) ∈ FLed lR dB cK cR ob r1 r2 r3 r4 r5 r6 r7 r8 r9 rv rn ck cr := fun _ _ _ _ => by simp [FLed]
  have hkm : ∀ rv rn ck cr, (cK, ck) ∈ FLed lR dB cK cR ob r1 r2 r3 r4 r5 r6 r7 r8 r9 rv rn ck cr := fun _ _ _ _ => by simp [FLed]
  refine wpAny_For (he _ ?_)
  have hat : s.heap.DictAt (PySem.strKind prog w) dB kvs ep := ha.dictAt (N _ (hdm _ _ _ _)).1
  refine wpAny_pyIter_dict lo hat ?_
  have hIlt : ∀ p ∈ FLed lR dB cK cR ob r1 r2 r3 r4 r5 r6 r7 r8 r9 [] n0 ck0 cr0, p.1 < s.heap.objs.size := fun p hp => Heap.lt_size (N p hp).1
  have hIL : env.locals < s.heap.objs.size := F.ns.lt
  have hI₀ : h₀.get? s.heap.objs.size = none := next_is_new F
  have W := Walks.dictKeys (prog := prog) (w := w) (A := A) (knd := PySem.strKind prog w) hh s.heap.objs.size dB (Nat.ne_of_lt (hIlt _ (hdm _ _ _ _))) kvs ep
  refine codeAny_forLoop (fun k s' => ∃ h' tk i rv rs rn ck cr v, s' = { s with heap := h', toks := tk } ∧ i ≤ kvs.length ∧ k = kvs.length + 1 - i ∧ (h'.IsKeyIter s.heap.objs.size dB i kvs.length ep ∧ h'.DictAt (PySem.strKind prog w) dB kvs ep) ∧
      Fr h₀ env.locals h' m₀ ∧ News h₀ env.locals h' (FLed lR dB cK cR ob r1 r2 r3 r4 r5 r6 r7 r8 r9 rv rn ck cr) ∧ StrsAre rv rs ∧ ck.data = .cell v ∧ cr.data = .cell (some (.ref lR)) ∧ P ((keysOf c).take i) rs) ?_ (kvs.length + 1)
    ⟨_, _, 0, [], [], n0, ck0, cr0, v0, rfl, Nat.zero_le _, rfl, ⟨⟨_, Heap.get?_push_size _ rfl, rfl, rfl⟩, hat.push _⟩, F.push _, (fun p hp => ⟨Heap.get?_push_of_some _ (N p hp).1, (N p hp).2⟩), .nil, h2, h3, by simpa using hp⟩
  rintro k s' ⟨h', tk, i, rv, rs, rn, ck, cr, v, rfl, hi, rfl, hst', F', N', hS, hck, hcr, hP⟩
  have hIo : ∀ p ∈ FLed lR dB cK cR ob r1 r2 r3 r4 r5 r6 r7 r8 r9 rv rn ck cr, p.1 < s.heap.objs.size := by
    intro p hp
    have : ∃ o, (p.1, o) ∈ FLed lR dB cK cR ob r1 r2 r3 r4 r5 r6 r7 r8 r9 [] n0 ck0 cr0 := by
      simp only [FLed, List.mem_cons, List.not_mem_nil, or_false] at hp ⊢
      rcases hp with rfl | rfl | rfl | rfl | rfl | rfl | rfl | rfl | rfl | rfl | rfl | rfl | rfl
      · exact ⟨_, .inl rfl⟩
      · exact ⟨_, .inr (.inl rfl)⟩
      · exact ⟨_, .inr (.inr (.inl rfl))⟩
      · exact ⟨_, .inr (.inr (.inr (.inl rfl)))⟩
      · exact ⟨_, .inr (.inr (.inr (.inr (.inl rfl))))⟩
      · exact ⟨_, .inr (.inr (.inr (.inr (.inr (.inl rfl)))))⟩
      · exact ⟨_, .inr (.inr (.inr (.inr (.inr (.inr (.inl rfl))))))⟩
      · exact ⟨_, .inr (.inr (.inr (.inr (.inr (.inr (.inr (.inl rfl)))))))⟩
      · exact ⟨_, .inr (.inr (.inr (.inr (.inr (.inr (.inr (.inr (.inl rfl))))))))⟩
      · exact ⟨_, .inr (.inr (.inr (.inr (.inr (.inr (.inr (.inr (.inr (.inl rfl)))))))))⟩
      · exact ⟨_, .inr (.inr (.inr (.inr (.inr (.inr (.inr (.inr (.inr (.inr (.inl rfl))))))))))⟩
      · exact ⟨_, .inr (.inr (.inr (.inr (.inr (.inr (.inr (.inr (.inr (.inr (.inr (.inl rfl)))))))))))⟩
      · exact ⟨_, .inr (.inr (.inr (.inr (.inr (.inr (.inr (.inr (.inr (.inr (.inr (.inr rfl)))))))))))⟩
    obtain ⟨o, ho⟩ := this
    exact hIlt (p.1, o) ho
  have keep : ∀ h₁ : Heap, (∀ b o, b ∉ [s.heap.objs.size] → h'.get? b = some o → h₁.get? b = some o) → Fr h₀ env.locals h₁ m₀ ∧ News h₀ env.locals h₁ (FLed lR dB cK cR ob r1 r2 r3 r4 r5 r6 r7 r8 r9 rv rn ck cr) := fun h₁ hk₁ =>
    ⟨LCg.fr_but F' hk₁ (Nat.ne_of_lt hIL) hI₀, LCg.news_but N' hk₁ fun p hp => Nat.ne_of_lt (hIo p hp)⟩
  by_cases hlt : i < kvs.length
  · refine W.item i _ _ _ hlt hst' fun v₁ h₁ tk₁ hPv hst₁ hk₁ => ?_
    obtain ⟨key, xv, hx, hkey⟩ := hPv
    obtain ⟨t, rfl⟩ := PySem.Value.isStrOf_shape hkey
    obtain ⟨F₁, N₁⟩ := keep h₁ hk₁
    have zk := N₁ _ (hkm rv rn ck cr)
    refine wpAny_assign_Name (hst (.str key t) _ _ { s with heap := h₁, toks := tk₁ } ck v zk.1 hck fun h₂ ck₂ ho₂ hd₂ hs₂ => ?_)
    have hIne : s.heap.objs.size ≠ cK := Nat.ne_of_gt (hIo _ (hkm rv rn ck cr))
    have hdne : dB ≠ cK := hneB
    have F₂ : Fr h₀ env.locals h₂ m₀ := F₁.change hs₂ zk.2.1 zk.2.2
    obtain ⟨oI, hoI, hoc, hod⟩ := hst₁.1
    have hst₂ : h₂.IsKeyIter s.heap.objs.size dB (i + 1) kvs.length ep := ⟨oI, (hs₂.2 _ hIne).trans hoI, hoc, hod⟩
    have hdi₂ : h₂.DictAt (PySem.strKind prog w) dB kvs ep := hst₁.2.at' fun o e => (hs₂.2 _ hdne).trans e
    have off : ∀ p ∈ FLed lR dB cK cR ob r1 r2 r3 r4 r5 r6 r7 r8 r9 rv rn ck₂ cr, p.1 = cK ∧ p.2 = ck₂ ∨ (p ∈ FLed lR dB cK cR ob r1 r2 r3 r4 r5 r6 r7 r8 r9 rv rn ck cr ∧ p.1 ≠ cK) := by
      intro p hp
      simp only [List.mem_cons, List.not_mem_nil, or_false, forall_eq_or_imp, forall_eq] at hne1
      obtain ⟨e1, e2, e3, e4, e5, e6, e7, e8, e9⟩ := hne1
      simp only [FLed, List.mem_cons, List.not_mem_nil, or_false] at hp ⊢
      rcases hp with rfl | rfl | rfl | rfl | rfl | rfl | rfl | rfl | rfl | rfl | rfl | rfl | rfl
      · exact .inr ⟨.inl rfl, hneR⟩
      · exact .inr ⟨.inr (.inl rfl), e1⟩
      · exact .inr ⟨.inr (.inr (.inl rfl)), e2⟩
      · exact .inr ⟨.inr (.inr (.inr (.inl rfl))), e3⟩
      · exact .inr ⟨.inr (.inr (.inr (.inr (.inl rfl)))), e4⟩
      · exact .inr ⟨.inr (.inr (.inr (.inr (.inr (.inl rfl))))), e5⟩
      · exact .inr ⟨.inr (.inr (.inr (.inr (.inr (.inr (.inl rfl)))))), e6⟩
      · exact .inr ⟨.inr (.inr (.inr (.inr (.inr (.inr (.inr (.inl rfl))))))), e7⟩
      · exact .inr ⟨.inr (.inr (.inr (.inr (.inr (.inr (.inr (.inr (.inl rfl)))))))), e8⟩
      · exact .inr ⟨.inr (.inr (.inr (.inr (.inr (.inr (.inr (.inr (.inr (.inl rfl))))))))), hneB⟩
      · exact .inl ⟨rfl, rfl⟩
      · exact .inr ⟨.inr (.inr (.inr (.inr (.inr (.inr (.inr (.inr (.inr (.inr (.inr (.inl rfl))))))))))), hneC⟩
      · exact .inr ⟨.inr (.inr (.inr (.inr (.inr (.inr (.inr (.inr (.inr (.inr (.inr (.inr rfl))))))))))), e9⟩
    have N₂ : News h₀ env.locals h₂ (FLed lR dB cK cR ob r1 r2 r3 r4 r5 r6 r7 r8 r9 rv rn ck₂ cr) := fun p hp => by
      rcases off p hp with ⟨q1, q2⟩ | ⟨q1, q2⟩
      · rw [q1, q2]; exact ⟨ho₂, zk.2⟩
      · have z := N₁ p q1
        exact ⟨(hs₂.2 _ q2).trans z.1, z.2⟩
    have hoI₂ : h₂.get? s.heap.objs.size = some oI := (hs₂.2 _ hIne).trans hoI
    have N₃ : News h₀ env.locals h₂ [(lR, listOf rv.toArray rn), r1, r2, r3, r4, r5, r6, r7, r8, (dB, ob), (cK, ck₂), (cR, cr), r9, (s.heap.objs.size, oI)] := fun p hp => by
      have hp' : p ∈ FLed lR dB cK cR ob r1 r2 r3 r4 r5 r6 r7 r8 r9 rv rn ck₂ cr ++ [(s.heap.objs.size, oI)] := hp
      rcases List.mem_append.mp hp' with hp' | hp'
      · exact N₂ p hp'
      · rw [List.mem_singleton.mp hp']
        exact ⟨hoI₂, Nat.ne_of_gt hIL, hI₀⟩
    have hlk : (keysOf c)[i]? = some key := by rw [← hK, List.getElem?_map, hx]; rfl
    have htk : (keysOf c).take (i + 1) = (keysOf c).take i ++ [key] := by simp [List.take_add_one, hlk]
    have hsplit : keysOf c = (keysOf c).take i ++ key :: (keysOf c).drop (i + 1) := by
      have ht := List.take_append_drop (i + 1) (keysOf c)
      rw [htk, List.append_assoc] at ht
      exact ht.symm
    have hall : AllLt s.heap.objs.size (FLed lR dB cK cR ob r1 r2 r3 r4 r5 r6 r7 r8 r9 rv rn ck₂ cr) := allLt_of fun p hp => by
      rcases off p hp with ⟨q1, q2⟩ | ⟨q1, q2⟩
      · rw [q1]; exact hIo _ (hkm rv rn ck cr)
      · exact hIo p q1
    refine wpAny_mono (turn _ _ key t rv rs rn ck₂ cr s.heap.objs.size oI h₂ tk₁ hsplit hS hP hd₂ hcr hall F₂ N₃) (fun fl s₃ q => ?_) fun _ _ z => z.elim
    have fin : FEnd h₀ env.locals s lR dB cK cR ob r1 r2 r3 r4 r5 r6 r7 r8 r9 (s.heap.objs.size, oI) m₀ P ((keysOf c).take i ++ [key]) s₃ → ∃ m, m < kvs.length + 1 - i ∧ ∃ h' tk i rv rs rn ck cr v, s₃ = { s with heap := h', toks := tk } ∧ i ≤ kvs.length ∧ m = kvs.length + 1 - i ∧ (h'.IsKeyIter s.heap.objs.size dB i kvs.length ep ∧ h'.DictAt (PySem.strKind prog w) dB kvs ep) ∧
      Fr h₀ env.locals h' m₀ ∧ News h₀ env.locals h' (FLed lR dB cK cR ob r1 r2 r3 r4 r5 r6 r7 r8 r9 rv rn ck cr) ∧ StrsAre rv rs ∧ ck.data = .cell v ∧ cr.data = .cell (some (.ref lR)) ∧ P ((keysOf c).take i) rs := by
      rintro ⟨rv', rs', rn', ck', cr', v', h'', tk', m', news', e, F'', N'', hsub, hit, hS', hck', hcr', hm, hP'⟩
      have N4 : News h₀ env.locals h'' (FLed lR dB cK cR ob r1 r2 r3 r4 r5 r6 r7 r8 r9 rv' rn' ck' cr') := fun p hp => N'' p (hsub p hp)
      have em : m' = m₀ := funext hm
      rw [em] at F''
      refine ⟨kvs.length + 1 - (i + 1), by omega, h'', tk', i + 1, rv', rs', rn', ck', cr', v', e, hlt, rfl, ⟨⟨oI, (N'' _ hit).1, hoc, hod⟩, ha.dictAt (N4 _ (hdm _ _ _ _)).1⟩, F'', N4, hS', hck', hcr', ?_⟩
      rw [htk]; exact hP'
    cases fl with
    | ret v => exact q.elim
    | brk => exact q.elim
    | next => exact fin q
    | cont => exact fin q
  · obtain rfl : i = kvs.length := Nat.le_antisymm hi (Nat.not_lt.mp hlt)
    refine W.done _ _ _ hst' fun h₁ tk₁ hk₁ => wpAny_execs_nil ?_
    obtain ⟨F₁, N₁⟩ := keep h₁ hk₁
    have hl : (keysOf c).take kvs.length = keysOf c := List.take_of_length_le (by rw [← hK, List.length_map]; exact Nat.le_refl _)
    rw [hl] at hP
    exact done rv rs rn ck cr v h₁ tk₁ hS hP hck hcr F₁ N₁
end
end Mine
namespace Mine
open PySem PyProof PySem.W PyProof.Rows PyProof.V PySem.Spec PySem.Calls

def cut (key : Str) (k : Int) : Str := Txt.slice key none (some k)
def newFronts (rs : List Str) (key : Str) : List Str := (rangeKs 0 (key.length + 1)).foldl (fun l k => if rs.any (· == cut key k) then l else l ++ [cut key k]) []
structure FInv (c : List (Str × Int)) (done rs : List Str) : Prop where
  book : BookOk c
  few : c.length ≤ 7
  sub : ∃ rest, keysOf c = done ++ rest
  nodup : rs.Nodup
  mem : ∀ x, x ∈ rs ↔ ∃ k ∈ done, pfx x k = true
  size : rs.length ≤ 5 * done.length
theorem FInv.start {c : List (Str × Int)} (h : BookOk c) (h7 : c.length ≤ 7) : FInv c [] [] :=
  ⟨h, h7, ⟨_, rfl⟩, List.nodup_nil, fun x => by simp, by simp⟩
theorem FInv.len {c : List (Str × Int)} {done rs : List Str} (h : FInv c done rs) : rs.length ≤ 35 := by
  obtain ⟨rest, e⟩ := h.sub
  have := congrArg List.length e
  rw [List.length_append, keysOf, List.length_map] at this
  have := h.few
  have := h.size
  omega
theorem FInv.sz {c : List (Str × Int)} {done rs : List Str} (h : FInv c done rs) : rs.length ≤ 100000 := by have := h.len; omega
theorem FInv.key {c : List (Str × Int)} {done rs post : List Str} {k : Str} (h : FInv c done rs) (e : keysOf c = done ++ k :: post) : k.length ≤ 4 := by
  have hk : k ∈ keysOf c := by rw [e]; exact List.mem_append_right _ (.head _)
  obtain ⟨p, hp, rfl⟩ := List.mem_map.mp hk
  exact (h.book.ok p hp).2
theorem FInv.key63 {c : List (Str × Int)} {done rs post : List Str} {k : Str} (h : FInv c done rs) (e : keysOf c = done ++ k :: post) : (k.length : Int) < 9223372036854775808 := by have := h.key e; omega
theorem FInv.keysz {c : List (Str × Int)} {done rs post : List Str} {k : Str} (h : FInv c done rs) (e : keysOf c = done ++ k :: post) : k.length ≤ sizeLine := by have := h.key e; rw [sizeLine_eq]; omega
theorem FInv.small {c : List (Str × Int)} {done rs post : List Str} {k : Str} (h : FInv c done rs) (e : keysOf c = done ++ k :: post) : Builtin.Range.small 0 ((k.length : Int) + 1) 1 = true := by
  have := h.key e
  exact small_one (by omega) (by omega) (by omega) (by omega)
theorem FInv.n {k : Str} : Builtin.Range.rangeSize 0 ((k.length : Int) + 1) 1 = ((k.length + 1 : Nat) : Int) := by
  rw [rangeSize_nat]; omega
theorem FInv.nsz {c : List (Str × Int)} {done rs post : List Str} {k : Str} (h : FInv c done rs) (e : keysOf c = done ++ k :: post) : k.length + 1 ≤ sizeLine := by have := h.key e; rw [sizeLine_eq]; omega
theorem foldl_len {rs : List Str} {key : Str} : ∀ (ks : List Int) (l : List Str), (ks.foldl (fun l k => if rs.any (· == cut key k) then l else l ++ [cut key k]) l).length ≤ l.length + ks.length
  | [], l => by simp
  | k :: ks, l => by
    rw [List.foldl_cons]
    refine Nat.le_trans (foldl_len ks _) ?_
    split <;> simp <;> omega
theorem newFronts_len (rs : List Str) (key : Str) : (newFronts rs key).length ≤ key.length + 1 := by
  have := foldl_len (rs := rs) (key := key) (rangeKs 0 (key.length + 1)) []
  rw [rangeKs_length] at this
  simpa [newFronts] using this
theorem FInv.nf {c : List (Str × Int)} {done rs post : List Str} {k : Str} (h : FInv c done rs) (e : keysOf c = done ++ k :: post) : (newFronts rs k).length ≤ 100000 := by
  have := newFronts_len rs k
  have := h.key e
  omega
theorem cut_cp {key : Str} {i : Nat} (h : i ≤ key.length) : cp (cut key (i : Int)) = (cp key).take i := slice_upto h
theorem nf_fold {rs : List Str} {key : Str} : ∀ (ks : List Int) (l : List Str), ks.foldl (fun l k => if rs.any (· == cut key k) then l else l ++ [cut key k]) l = l ++ (ks.map (cut key)).filter (fun x => !rs.any (· == x))
  | [], l => by simp
  | k :: ks, l => by
    rw [List.foldl_cons, nf_fold ks, List.map_cons, List.filter_cons]
    cases h : rs.any (· == cut key k) with
    | true => simp
    | false => simp
theorem nf_eq (rs : List Str) (key : Str) : newFronts rs key = (((List.range (key.length + 1)).map (fun (i : Nat) => cut key (i : Int))).filter (fun x => !rs.any (· == x))) := by
  unfold newFronts
  rw [nf_fold, List.nil_append]
  congr 1
  unfold rangeKs
  rw [List.map_map]
  refine List.map_congr_left fun i _ => ?_
  show cut key (0 + (i : Int)) = cut key (i : Int)
  rw [Int.zero_add]
theorem nf_mem {rs : List Str} {key x : Str} : x ∈ newFronts rs key ↔ pfx x key = true ∧ x ∉ rs := by
  rw [nf_eq, List.mem_filter, List.mem_map, pfx_iff]
  have e : (!rs.any (· == x)) = true ↔ x ∉ rs := by
    rw [Bool.not_eq_true', List.any_eq_false]
    constructor
    · intro h hx; exact h x hx (by simp)
    · intro h y hy q; exact h (by rw [← beq_iff_eq.mp q]; exact hy)
  rw [e]
  constructor
  · rintro ⟨⟨i, hi, rfl⟩, h2⟩
    refine ⟨?_, h2⟩
    rw [cut_cp (by have := List.mem_range.mp hi; omega)]
    exact List.take_prefix _ _
  · rintro ⟨h1, h2⟩
    refine ⟨⟨x.length, List.mem_range.mpr (by have := h1.length_le; rw [Array.length_toList, Array.length_toList] at this; simp only [Str.length]; omega), ?_⟩, h2⟩
    have hl : x.length ≤ key.length := by have := h1.length_le; rw [Array.length_toList, Array.length_toList] at this; exact this
    refine cp_inj ?_
    rw [cut_cp hl]
    have := List.prefix_iff_eq_take.mp h1
    rw [Array.length_toList] at this
    exact this.symm
theorem nf_nodup (rs : List Str) (key : Str) : (newFronts rs key).Nodup := by
  rw [nf_eq]
  refine List.Pairwise.filter _ ?_
  rw [List.pairwise_map]
  refine List.Pairwise.imp_of_mem ?_ (List.nodup_range (n := key.length + 1))
  intro i j hi hj hij e
  have h1 := List.mem_range.mp hi
  have h2 := List.mem_range.mp hj
  have e' : (cp (cut key (i : Int))).length = (cp (cut key (j : Int))).length := by rw [e]
  rw [cut_cp (by omega), cut_cp (by omega), List.length_take, List.length_take, Array.length_toList] at e'
  simp only [Str.length] at h1 h2
  omega
theorem FInv.step {c : List (Str × Int)} {done rs post : List Str} {k : Str} (h : FInv c done rs) (e : keysOf c = done ++ k :: post) : FInv c (done ++ [k]) (rs ++ newFronts rs k) := by
  refine ⟨h.book, h.few, ⟨post, by rw [e]; simp⟩, ?_, fun x => ?_, ?_⟩
  · refine List.nodup_append.mpr ⟨h.nodup, nf_nodup rs k, ?_⟩
    intro a ha b hb q
    rw [← q] at hb
    exact (nf_mem.mp hb).2 ha
  · rw [List.mem_append, nf_mem, h.mem]
    constructor
    · rintro (⟨y, h1, h2⟩ | ⟨h1, _⟩)
      · exact ⟨y, List.mem_append_left _ h1, h2⟩
      · exact ⟨k, List.mem_append_right _ (.head _), h1⟩
    · rintro ⟨y, h1, h2⟩
      by_cases q : ∃ y ∈ done, pfx x y = true
      · exact .inl q
      · rcases List.mem_append.mp h1 with h1 | h1
        · exact .inl ⟨y, h1, h2⟩
        · rw [List.mem_singleton.mp h1] at h2
          exact .inr ⟨h2, q⟩
  · have := newFronts_len rs k
    have := h.key e
    have := h.size
    rw [List.length_append, List.length_append]
    simp only [List.length_cons, List.length_nil]
    omega

def FEl (rs : List Str) (key : Str) (news : List (Addr × Obj)) (k : Int) (y : Value) (news' : List (Addr × Obj)) : Prop := news' = news ∧ (!(rs.any (· == cut key k))) = true ∧ ∃ t : Tok, y = .str (cut key k) t
def FNo (rs : List Str) (key : Str) (news : List (Addr × Obj)) (k : Int) (news' : List (Addr × Obj)) : Prop := news' = news ∧ (!(rs.any (· == cut key k))) = false
section
variable {prog : Program} {w : World} {A : Around} {h₀ : Heap} {L : Addr} {m : Str → Option Value} {env : Env} {ct elt : Expr} {x : Str} {scope : Scope} {cl : List (Str × Addr)} {s : Shared} {S : List (Addr × Obj) → Prop} {Fin : List Value → List (Addr × Obj) → Prop} {news : List (Addr × Obj)}
theorem fronts_comp {c : List (Str × Int)} {done rs post : List Str} {key : Str} (_hF : FInv c done rs) (_e : keysOf c = done ++ key :: post)
    (turn : ∀ k t I oI C oC D m₂ ys h tk (E' : Value → Shared → Prop), 0 ≤ k → k ≤ (key.length : Int) → LCg.NsObj oC m₂ → m₂ x = some (.int k t) → Fr h₀ L h m → News h₀ L h ((I, oI) :: (C, oC) :: (D, LCg.lst ys) :: news) → LCg.Off3 I C D news → ((@Ne Nat I C) ∧ (@Ne Nat I D) ∧ (@Ne Nat C D)) →
      wpAny (model prog w) A (isTrue ct (compEnvC scope cl C env) (eval ct (compEnvC scope cl C env))) (fun b s' => if b = true then wpAny (model prog w) A (eval elt (compEnvC scope cl C env)) (LCg.CompEnd h₀ L m { s with heap := h, toks := tk } I oI C oC D (LCg.lst ys) S (FEl rs key news k)) E' s'
        else LCg.CompEnd h₀ L m { s with heap := h, toks := tk } I oI C oC D (LCg.lst ys) S (fun _ => FNo rs key news k) Value.none s') E' { s with heap := h, toks := tk })
    (fin : ∀ ys, StrsAre ys (newFronts rs key) → Fin ys news) : LCt.CompRestT prog w A h₀ L m env ct elt x scope cl s S (fun i v => ∃ t, v = .int (0 + (i : Int)) t) Fin (key.length + 1) 0 [] news := by
  have key' : ∀ (j i : Nat) (ys : List Value), i + j = key.length + 1 → StrsAre ys (((rangeKs 0 (key.length + 1)).take i).foldl (fun l k => if rs.any (· == cut key k) then l else l ++ [cut key k]) []) → LCt.CompRestT prog w A h₀ L m env ct elt x scope cl s S (fun i v => ∃ t, v = .int (0 + (i : Int)) t) Fin j i ys news := by
    intro j
    induction j with
    | zero =>
      intro i ys hi hy
      have e : (rangeKs 0 (key.length + 1)).take i = rangeKs 0 (key.length + 1) := List.take_of_length_le (by rw [rangeKs_length]; omega)
      rw [e] at hy
      exact LCt.CompRestT.zero (fin ys hy)
    | succ j ih =>
      intro i ys hi hy
      refine LCt.CompRestT.succ ?_
      rintro v I oI C oC D m₂ h tk E' ⟨t, rfl⟩ hC hx F N off ne
      have hk : (rangeKs 0 (key.length + 1))[i]? = some (0 + (i : Int)) := by
        have : i < key.length + 1 := by omega
        simp [rangeKs, this]
      have hs : ((rangeKs 0 (key.length + 1)).take (i + 1)).foldl (fun l k => if rs.any (· == cut key k) then l else l ++ [cut key k]) [] =
          if rs.any (· == cut key (0 + (i : Int))) then ((rangeKs 0 (key.length + 1)).take i).foldl (fun l k => if rs.any (· == cut key k) then l else l ++ [cut key k]) []
          else ((rangeKs 0 (key.length + 1)).take i).foldl (fun l k => if rs.any (· == cut key k) then l else l ++ [cut key k]) [] ++ [cut key (0 + (i : Int))] := by
        rw [List.take_add_one, hk]
        simp only [Option.toList_some, List.foldl_append, List.foldl_cons, List.foldl_nil]
      refine wpAny_mono (turn (0 + (i : Int)) t I oI C oC D m₂ ys h tk E' (by omega) (by omega) hC hx F N off ne) (fun b s₂ hq => ?_) fun _ _ e => e
      cases b with
      | true =>
        simp only [if_true] at hq ⊢
        refine wpAny_mono hq (fun y s₃ hr => ?_) fun _ _ e => e
        obtain ⟨h', tk', nw, e, F', N', off', hS, hn, hno, t', hy'⟩ := hr
        rw [hn] at N' off' hS
        refine ⟨h', tk', news, e, F', N', off', hS, ?_⟩
        rw [hy']
        refine ih (i + 1) _ (by omega) ?_
        rw [hs, if_neg (by rw [Bool.not_eq_true'] at hno; rw [hno]; exact Bool.false_ne_true)]
        exact StrsAre.append' hy (.cons _ _ .nil)
      | false =>
        simp only [Bool.false_eq_true, if_false] at hq ⊢
        obtain ⟨h', tk', nw, e, F', N', off', hS, hn, hyes⟩ := hq
        rw [hn] at N' off' hS
        refine ⟨h', tk', news, e, F', N', off', hS, ih (i + 1) _ (by omega) ?_⟩
        rw [hs, if_pos (by rw [Bool.not_eq_false'] at hyes; exact hyes)]
        exact hy
  exact key' (key.length + 1) 0 [] (by omega) .nil
end
end Mine
namespace Mine
open PySem PyProof PySem.W PyProof.Rows PyProof.V PySem.Spec PySem.Calls

theorem WInv.all {c : List (Str × Int)} {ps fs as : List Str} (h : WInv c ps fs as) (e : as = []) : ps = P5 (keysOf c) (Str.ofString "") := by
  have := h.walk
  rw [e] at this
  simpa using this
theorem le_of_lt_pw {l : List Str} (h : l.Pairwise (fun a b => cp a < cp b)) : l.Pairwise (fun a b => cp a ≤ cp b) := h.imp fun {a b} hab => List.not_lt.mp fun q => List.lt_irrefl _ (List.lt_trans hab q)
theorem fin1 {c : List (Str × Int)} {ps fs as rs ss : List Str} (h : WInv c ps fs as) (e : as = []) (hF : FInv c (keysOf c) rs) (hp : ss.Perm rs) (hs : sortedS ss = true) : ps = ss := by
  have hps := h.all e
  have hpw := P5_pw (keysOf c)
  rw [← hps] at hpw
  refine pw_unique ((perm_of (lt_nodup hpw) hF.nodup fun x => ?_).trans hp.symm) (le_of_lt_pw hpw) (sorted_pw hs)
  rw [hps, P5_mem h.book, hF.mem, has_iff]
  constructor
  · rintro ⟨k, h1, h2⟩; exact ⟨k, h1, pfx_iff.mpr h2⟩
  · rintro ⟨k, h1, h2⟩; exact ⟨k, h1, pfx_iff.mp h2⟩
theorem fin2 {c : List (Str × Int)} {ps fs as ss : List Str} (h : WInv c ps fs as) (e : as = []) (hp : ss.Perm (keysOf c)) (hs : sortedS ss = true) : fs = ss := by
  have hps := h.all e
  have hpw := P5_pw (keysOf c)
  rw [← hps] at hpw
  have hfw : fs.Pairwise (fun a b => cp a < cp b) := by rw [h.found]; exact hpw.filter _
  refine pw_unique ((perm_of (lt_nodup hfw) h.book.nodup fun x => ?_).trans hp.symm) (le_of_lt_pw hfw) (sorted_pw hs)
  rw [h.found, List.mem_filter, hps, P5_mem h.book]
  constructor
  · rintro ⟨_, h2⟩
    obtain ⟨p, hp', q⟩ := List.any_eq_true.mp h2
    rw [← of_decide_eq_true q]
    exact List.mem_map.mpr ⟨p, hp', rfl⟩
  · intro hx
    obtain ⟨p, hp', rfl⟩ := List.mem_map.mp hx
    have hk : kdpHas c p.1 = true := List.any_eq_true.mpr ⟨p, hp', by simp⟩
    exact ⟨has_key hk, hk⟩
theorem FNo.of {rs : List Str} {key : Str} {news : List (Addr × Obj)} {k : Int} (h : (rs.any fun x => x == Txt.slice key none (some k)) = true) : FNo rs key news k news := ⟨rfl, by rw [show (rs.any fun x => x == cut key k) = true from h]; rfl⟩
theorem FEl.of {rs : List Str} {key : Str} {news : List (Addr × Obj)} {k : Int} {t : Tok} (h : (rs.any fun x => x == Txt.slice key none (some k)) = false) : FEl rs key news k (.str (Txt.slice key none (some k)) t) news := ⟨rfl, by rw [show (rs.any fun x => x == cut key k) = false from h]; rfl, t, rfl⟩
theorem FInv.len64 {c : List (Str × Int)} {done rs : List Str} (h : FInv c done rs) : rs.length < 64 := by have := h.len; omega
theorem WInv.len64 {c : List (Str × Int)} {ps fs as : List Str} (h : WInv c ps fs as) : (keysOf c).length < 64 := by
  rw [keysOf, List.length_map]; have := h.few; omega
theorem kvs_len {kvs : List (Str × Value)} {c : List (Str × Int)} {n : Int} (hf : FlatPairs PyData.str kvs (kdpD c)) (h : BkInv (rangeKs 0 ((if n < 7 then n else 7) - 0).toNat) c) : kvs.length ≤ 16777216 := by
  have e := congrArg List.length (keys_eq hf)
  rw [List.length_map, List.length_map] at e
  have := h.fin
  omega
theorem strs_same {us ws : List Value} {ss : List Str} (h1 : StrsAre us ss) (h2 : StrsAre ws ss) : us.length = ws.length := by rw [h1.len_eq, h2.len_eq]
section
variable {prog : Program} {w : World} {A : Around} {E : Value → Shared → Prop} {s : Shared} {h₀ : Heap} {L : Addr} {m : Str → Option Value} {news : List (Addr × Obj)}
theorem my_sorted {D : Addr} {vs : List Value} {ss : List Str} {n : Nat} {Q : Value → Shared → Prop} (F : Fr h₀ L s.heap m) (N : News h₀ L s.heap news) (hm : (D, listOf vs.toArray n) ∈ news) (hS : StrsAre vs ss) (h64 : ss.length < 64)
    (h : ∀ (B : Addr) h' vs' ss' e, Fr h₀ L h' m → News h₀ L h' ((B, listOf vs'.toArray e) :: news) → (∀ q ∈ news, q.1 < B) → StrsAre vs' ss' → ss'.Perm ss → sortedS ss' = true → Q (.ref B) { s with heap := h' }) :
    wpAny (model prog w) A (call (.builtin "sorted") [.ref D]) Q E s :=
  sorted_N_str F N (my_isList N hm) hS (by rw [hS.len_eq]; exact h64) fun h' vs' ss' e F' N' a1 a2 a3 => h _ h' vs' ss' e F' N' (fun q hq => Nat.lt_succ_of_lt (Heap.lt_size (N q hq).1)) a1 a2 a3
theorem my_eq_lists {D B : Addr} {us ws : List Value} {ss ts : List Str} {n k : Nat} {Q : Value → Shared → Prop} (N : News h₀ L s.heap news) (h1 : (D, listOf us.toArray n) ∈ news) (h2 : (B, listOf ws.toArray k) ∈ news) (hS : StrsAre us ss) (hT : StrsAre ws ts) (e : ss = ts)
    (hu : A.units < cLine) (q : Q (.bool true) s) : wpAny (model prog w) A (compareOp .Eq (.ref D) (.ref B)) Q E s := by
  subst e
  refine P.eq_list (e := fun _ => true) (N _ h1).1 (N _ h2).1 (by rw [List.size_toArray, List.size_toArray]; exact strs_same hS hT) (fun j a1 a2 => ?_) hu (by rw [show ((List.range us.toArray.size).all fun _ => true) = true from List.all_eq_true.mpr fun _ _ => rfl]; exact q)
  have a1' : j < us.length := by simpa using a1
  have a2' : j < ws.length := by simpa using a2
  have a3 : j < ss.length := by rw [← hS.len_eq]; exact a1'
  obtain ⟨t, e1⟩ := hS.get j ss[j] (by simp [a3])
  obtain ⟨u, e2⟩ := hT.get j ss[j] (by simp [a3])
  have e1' : us.toArray[j] = .str ss[j] t := by
    rw [List.getElem?_eq_getElem a1'] at e1
    simpa using e1
  have e2' : ws.toArray[j] = .str ss[j] u := by
    rw [List.getElem?_eq_getElem a2'] at e2
    simpa using e2
  rw [e1', e2']
  have g := eqGives_str ss[j] ss[j] t u
  rw [beq_self_eq_true] at g
  exact g
end
section
variable {prog : Program} {w : World} {A : Around} {E : Value → Shared → Prop} {s : Shared} {h₀ : Heap} {L : Addr} {m : Str → Option Value} {env : Env} {news : List (Addr × Obj)}
def KeyAt (prog : Program) (w : World) (kvs : List (Str × Value)) (i : Nat) (v : Value) : Prop := ∃ k x, kvs[i]? = some (k, x) ∧ (PySem.strKind prog w).is k v = true
theorem book_rest {elt : Expr} {x : Str} {scope : Scope} {cl : List (Str × Addr)} {S : List (Addr × Obj) → Prop} {Fin : List Value → List (Addr × Obj) → Prop} {kvs : List (Str × Value)} {ks : List Str} (hK : kvs.map (·.1) = ks)
    (turn : ∀ k t I oI C oC D m₂ ys h tk (E' : Value → Shared → Prop), LCg.NsObj oC m₂ → m₂ x = some (.str k t) → Fr h₀ L h m → News h₀ L h ((I, oI) :: (C, oC) :: (D, LCg.lst ys) :: news) → LCg.Off3 I C D news → ((@Ne Nat I C) ∧ (@Ne Nat I D) ∧ (@Ne Nat C D)) →
      wpAny (model prog w) A (eval elt (compEnvC scope cl C env)) (LCg.CompEnd h₀ L m { s with heap := h, toks := tk } I oI C oC D (LCg.lst ys) S (fun y news' => KCtEl news k y news')) E' { s with heap := h, toks := tk })
    (fin : ∀ ys, StrsAre ys ks → Fin ys news) : LCg.CompRest prog w A h₀ L m env elt x scope cl s S (KeyAt prog w kvs) Fin kvs.length 0 [] news := by
  have key : ∀ (j i : Nat) (ys : List Value), i + j = kvs.length → StrsAre ys (ks.take i) → LCg.CompRest prog w A h₀ L m env elt x scope cl s S (KeyAt prog w kvs) Fin j i ys news := by
    intro j
    induction j with
    | zero =>
      intro i ys hi hy
      rw [List.take_of_length_le (by rw [← hK, List.length_map]; omega)] at hy
      exact LCg.CompRest.zero (fin ys hy)
    | succ j ih =>
      intro i ys hi hy
      refine LCg.CompRest.succ ?_
      rintro v I oI C oC D m₂ h tk E' ⟨k, xv, hk, hv⟩ hC hx F N off ne
      obtain ⟨t, rfl⟩ := PySem.Value.isStrOf_shape hv
      refine wpAny_mono (turn k t I oI C oC D m₂ ys h tk E' hC hx F N off ne) (fun y s₂ hq => ?_) fun _ _ e => e
      obtain ⟨h', tk', nw, e, F', N', off', hS, hn, t', hy'⟩ := hq
      rw [hn] at N' off' hS
      refine ⟨h', tk', news, e, F', N', off', hS, ?_⟩
      rw [hy']
      refine ih (i + 1) _ (by omega) ?_
      have hk' : ks[i]? = some k := by rw [← hK, List.getElem?_map, hk]; rfl
      rw [List.take_add_one, hk']
      exact StrsAre.append' hy (.cons _ _ .nil)
  exact key kvs.length 0 [] (by omega) .nil

theorem book_comp {elt : Expr} {x y : Str} {px py : Pos} {scope : Scope} {cl : List (Str × Addr)} {pos : Pos} {Q : Value → Shared → Prop} {d : Addr} {ob : Obj} {kvs : List (Str × Value)} (F₀ : Fr h₀ L s.heap m) (N : News h₀ L s.heap news)
    (hp : (d, ob) ∈ news) (hd : ob.IsDictOf (PySem.strKind prog w) kvs) (lo : (d == sysModules) = false) (hh : A.handled = none) (hn : kvs.length ≤ 16777216)
    (hclos : closureFor scope env = pure cl) (hcell : ∀ y ∈ scope.names, y.2 ≠ .cell) (hkind : scope.kind = .function)
    (hnames : ∀ y ∈ scope.names, y.2 = .local → scope.names.lookup y.1 = some .local) (hx : scope.names.lookup x = some .local)
    (he : ∀ (Q' : Value → Shared → Prop), Q' (.ref d) s → wpAny (model prog w) A (eval (.Name y py) env) Q' E s)
    (R : ∀ g, LCg.CompRest prog w A h₀ L m env elt x scope cl { s with heap := g } (fun nw => (d, ob) ∈ nw) (KeyAt prog w kvs) (LCg.FinE h₀ L m { s with heap := g } Q) kvs.length 0 [] news)
    (hs : ∀ x, foldedSetIterable (.Name y py) env x = pure x := by intro _; rfl) :
    wpAny (model prog w) A (eval (.ListComp elt [⟨.Name x px, .Name y py, [], 0⟩] scope pos) env) Q E s := by
  obtain ⟨ep, ha⟩ := KdkAt.of hd
  have hat := ha.dictAt (N _ hp).1
  have hlt : d < s.heap.objs.size := hat.lt_size
  rw [eval_ListComp]
  refine wpAny_comprehension_free (use := none) rfl hs hclos hkind hnames (he _ ?_)
  refine wpAny_pyIter_dict lo hat ?_
  have up : ∀ (o' : Obj) b o, s.heap.get? b = some o → (s.heap.push o').get? b = some o := fun _ b o e => Heap.get?_push_of_some _ e
  refine LCg.block_U (S := fun nw => (d, ob) ∈ nw) (P := KeyAt prog w kvs) (Walks.dictKeys (knd := PySem.strKind prog w) hh s.heap.objs.size d (Nat.ne_of_lt hlt) kvs ep) (kdl_size hn) (fun i h st => by obtain ⟨o, e, _⟩ := st.1; exact ⟨o, e⟩)
    (fun i h h' o nw st e e' k N' hm => ⟨by obtain ⟨o', q, r⟩ := st.1; rw [e] at q; cases q; exact ⟨o, e', r⟩, ha.dictAt (N' _ hm).1⟩) hcell hkind hx ⟨⟨_, Heap.get?_push_size _ rfl, rfl, rfl⟩, hat.push _⟩ (fun b hb => ?_)
    (F₀.keeps (up _)) (N.grown (up _)) (Nat.ne_of_lt F₀.ns.lt) (next_is_new F₀) (fun p hp => Nat.ne_of_lt (Heap.lt_size (N p hp).1)) hp (R _) ?_
  · show b < (s.heap.push _).objs.size
    rw [Heap.size_push]
    rcases List.mem_cons.mp hb with rfl | hb
    · exact Nat.lt_succ_self _
    · rw [List.mem_singleton.mp hb]; exact Nat.lt_succ_of_lt hlt
  · intro D C h tk m' ys news' F' N' o1 hn' hC₀ hD₀ hCL hDL hCD offC fin
    refine ⟨m', hn', fun h'' hs'' => fin D h'' tk (F'.change hs'' hCL hC₀) (fun p hp => ?_) o1⟩
    refine ⟨hs''.extBut _ _ ?_ (N' p hp).1, (N' p hp).2⟩
    rcases List.mem_cons.mp hp with rfl | hp
    · exact Ne.symm hCD
    · exact offC p hp
end
end Mine
open PySem PyProof PySem.W PyProof.Rows
local macro_rules | `(tactic| walk_at "exec While BoolOp cons nil") => `(tactic| (k_here; (rename Fr _ _ _ _ => lF'); (rename News _ _ _ _ => lN'); (rename Mine.BkInv _ _ => lB'); k_dflt (refine' Mine.my_while (Mine.WInv _) lF' lN' ?hc (Mine.WInv.start (Mine.BkInv.ok lB') (Mine.BkInv.fin lB')) ?_ ?hE); (case hE => k_dflt passes_own); (case hc => assumption); (intro av as an fv fs fn pv ps pn cell cv h tk fA fF fP fC wI wF wN); (clear lF' lN'); (try k_fold)))
local macro_rules | `(tactic| walk_at "subscriptTail") => `(tactic| (k_here; (with_reducible show wpAny _ _ (subscriptTail _ _ (Value.ref _) (Value.int (Int.fmod _ 6) _)) _ _ _); k_dflt (refine' KTb.item_list (ws := Mine.signs) ?kl ?kw (Mine.fm6 _).1 (Mine.fm6 _).2 ?kf ?_; (case kl => with_unfolding_all exact listIn (by k_asm) (by k_asm) (by k_is)); (case kw => repeat constructor); (case kf => exact Int.lt_trans (Mine.fm6 _).2 (by decide))); intro _ sgLt; (have sgM := Mine.sign_mem sgLt)))
local macro_rules | `(tactic| walk_at "inplaceOp Add str str") => `(tactic| ((with_reducible show wpAny _ _ (inplaceOp Operator.Add (Value.str _ _) (Value.str _ _)) _ _ _); (refine SBL.iadd (hsz := ?hsz) ?_); (case hsz => exact Mine.txt_sz (by assumption) (by assumption) (Mine.fm5n _) (by assumption)); intro _ _ _))
local macro_rules | `(tactic| walk_at "InvEndN") => `(tactic| k_dflt ((rename News _ _ _ _ => nE'); (refine' Mine.end_text ?F nE' ?P ?hr ?ho ?ha ?h1 ?h2 ?hm); (case F => assumption); (case P => exact Mine.TxtInv.step (by assumption) (by assumption)); (case h1 => with_unfolding_all rfl); (case h2 => with_unfolding_all rfl); (case ha => rfl); (case hr => (intro p hp; kst_mem)); (case ho => (intro p hp; kst_mem)); (case hm => (intro z h1 h2 h3; simp [h1, h2, h3]))))
local macro_rules | `(tactic| walk_at "InvEndN") => `(tactic| k_dflt ((rename News _ _ _ _ => nE'); (rename V.FlatPairs PyData.str _ _ => fE'); (refine' Mine.end_book ?F nE' ?d fE' ?P ?h1 ?hr ?ho ?ha ?hm); (case F => assumption); (case d => assumption); (case P => exact Mine.BkInv.step' (by assumption) (by assumption) (Mine.fm5n _)); (case h1 => k_mem); (case hr => kst_in); (case ha => rfl); (case ho => (intro p hp; kst_mem)); (case hm => (intro z h1; simp [h1]))))
local macro_rules | `(tactic| walk_at "setItem ref str") => `(tactic| (k_here; kdp_here; (with_reducible show wpAny _ _ (setItem (Value.ref _) (Value.str _ _) (Value.int _ _)) _ _ _); k_dflt (refine' kdp_setItem ?F ?N ?U ?d ?f ?z ?_; (case F => k_asm); (case N => k_asm); (case U => k_updF); (case d => k_asm); (case f => k_asm); (case z => exact Mine.BookOk.len7 (by assumption) (by assumption))); intro h' o' kvs' F' N' hd' hf'; (try dsimp only at N')))
local macro_rules | `(tactic| walk_at "call builtin:len") => `(tactic| (k_here; kdp_here; (with_reducible show wpAny _ _ (call (Value.builtin "len") [Value.ref _]) _ _ _); k_dflt (refine kdp_len (by k_tabat) (Nat.le_trans (Mine.BkInv.fin (by assumption)) (by decide)) ?_)))
local macro_rules | `(tactic| walk_at "call builtin:sorted") => `(tactic| (k_here; (with_reducible show wpAny _ _ (call (Value.builtin "sorted") [Value.ref _]) _ _ _); k_dflt (refine' Mine.my_sorted_keys (by rfl) (by k_asm) (by k_asm) (by k_mem) (by k_mem) (by k_asm) (by k_asm) (Mine.BkInv.fin (by assumption)) ?_); intro B' vs' ss' e' h' tk' F' N' l1 hS' hP' hO'; (try k_lt l1)))
local macro_rules | `(tactic| walk_at "subscriptTail") => `(tactic| (k_here; (with_reducible show wpAny _ _ (subscriptTail _ _ (Value.ref _) (Value.int (5 - _) _)) _ _ _); k_dflt ((refine' KTb.item_list (ws := Mine.signs) ?kl ?kw ?k0 ?k1 ?kf ?_); (case kl => with_unfolding_all exact listIn (by k_asm) (by k_asm) (by k_is)); (case kw => repeat constructor); (case k0 => exact Mine.at_lo (by assumption)); (case k1 => exact Mine.at_hi (by assumption)); (case kf => exact Mine.at_fit (by assumption))); intro _ sgLt; (have sgM := Mine.sign_mem sgLt)))
local macro_rules | `(tactic| walk_at "truthy ref") => `(tactic| (k_here; (with_reducible show wpAny _ _ (truthy (Value.ref _)) _ _ _); k_dflt (refine' Mine.my_truthy ?N ?m ?S ?z (fun wE => ?_) (fun wE => ?_); (case N => k_asm); (case m => k_mem); (case S => assumption); (case z => exact Mine.WInv.szA (by assumption)))))
local macro_rules | `(tactic| walk_at "call builtin:len") => `(tactic| (k_here; (with_reducible show wpAny _ _ (call (Value.builtin "len") [Value.ref _]) _ _ _); k_dflt (refine' Mine.my_len ?N ?m ?S ?z ?_; (case N => k_asm); (case m => k_mem); (case S => assumption); (case z => first | exact Mine.WInv.szP (by assumption) | exact Mine.sz7 (by assumption) (by assumption)))))
local macro_rules | `(tactic| walk_at "call builtin:list.pop") => `(tactic| (k_here; (with_reducible show wpAny _ _ (call (Value.builtin _) [Value.ref _]) _ _ _); k_dflt (refine' Mine.my_pop ?F ?N ?U ?S ?e ?z ?_; (case F => k_asm); (case N => k_asm); (case U => k_updF); (case S => assumption); (case e => assumption); (case z => exact Mine.WInv.szA (by assumption))); (intro h' us' ss' f' t' F' N' S' wE'; subst wE'); (try dsimp only at N')))
local macro_rules | `(tactic| walk_at "call builtin:list.append") => `(tactic| (k_here; (with_reducible show wpAny _ _ (call (Value.builtin _) [Value.ref _, Value.str _ _]) _ _ _); k_dflt (refine' Mine.my_append ?F ?N ?U ?S ?z ?_; (case F => k_asm); (case N => k_asm); (case U => k_updF); (case S => assumption); (case z => first | exact Mine.WInv.szP (by assumption) | exact Mine.WInv.szF (by assumption))); (intro h' F' N' S'); (try dsimp only at N')))
local macro_rules | `(tactic| walk_at "inplaceOp Add ref ref") => `(tactic| (k_here; (with_reducible show wpAny _ _ (inplaceOp Operator.Add (Value.ref _) (Value.ref _)) _ _ _); k_dflt (refine' Mine.my_iadd ?F ?N ?U ?b ?S ?T ?z ?y ?_; (case F => k_asm); (case N => k_asm); (case U => k_updF); (case b => k_mem); (case S => assumption); (case T => first | assumption | repeat constructor); (case z => first | exact Mine.WInv.szA' (by assumption) | exact Mine.FInv.sz (by assumption)); (case y => first | exact Mine.FInv.nf (by assumption) (by assumption) | exact Nat.le_of_ble_eq_true rfl)); (intro h' n' F' N' S'); (try dsimp only at N')))
local macro_rules | `(tactic| walk_at "exec While Compare cons nil") => `(tactic| (k_here; (rename Fr _ _ _ _ => lF'); (rename News _ _ _ _ => lN'); k_dflt (refine' Mine.my_search (Str.ofString "low") (Str.ofString "high") (Str.ofString "middle") (Mine.BsInv _ _) lF' lN' ?h1 ?h2 ?hp ?_ ?hE); (case h1 => with_unfolding_all rfl); (case h2 => with_unfolding_all rfl); (case hE => k_dflt passes_own); (case hp => exact Mine.BsInv.start' (by assumption) (by assumption)); (intro bi bj ti tj u h tk bI F' N'); (clear lF' lN'); (try k_fold)))
local macro_rules | `(tactic| walk_at "compareOp In str ref") => `(tactic| (k_here; (with_reducible show wpAny _ _ (compareOp CmpOp.In _ (Value.ref _)) _ _ _); k_dflt (refine' in_K ?k1 ?k2 ?k3 ?k4 ?k5 ?_; (case k1 => k_asm); (case k2 => k_asm); (case k3 => k_inst); (case k4 => k_is); (case k5 => k_is); k_whole)))
local macro_rules | `(tactic| walk_at "binaryOp Add str str") => `(tactic| ((with_reducible show wpAny _ _ (binaryOp Operator.Add (Value.str _ _) (Value.str _ _)) _ _ _); (refine SBL.add (hsz := ?hsz) ?_); (case hsz => exact Mine.kid_sz (by assumption) (by assumption)); intro _ _ _))
local macro_rules | `(tactic| walk_at "CompSrc") => `(tactic| (k_here; k_dflt ((refine LCg.CompSrc.range (n := 6) (by rfl) (by k_asm) (by k_asm) (by assumption) (by decide) (by rfl) (by exact Nat.le_of_ble_eq_true rfl) ?_); intro g'; (refine' Mine.kids_range (by assumption) (fun k' t' I' oI' C' oC' D' m' ys' h' tk' E' hlo' hhi' hC' hx' F' N' off' ne' => ?_) (fun ys' hK' => ?_)))))
local macro_rules | `(tactic| walk_at "KCtEl") => `(tactic| exact ⟨rfl, _, rfl⟩)
local macro_rules | `(tactic| walk_at "WPost") => `(tactic| (dsimp only [Mine.WPost]))
local macro_rules | `(tactic| walk_at "CompEnd") => `(tactic| k_dflt (refine LCg.CompEnd.intro (by k_asm) (by k_asm) _ (fun p hp => hp) (by assumption) (by first | exact trivial | k_mem) ?_))
local macro_rules | `(tactic| walk_at "WEnd") => `(tactic| k_dflt ((refine' Mine.WEnd.intro ?F ?N ?h1 ?h2 ?h3 ?h4 ?hr ?f1 ?f2 ?f3 ?f4 ?hm ?hp ?hl); (case F => k_asm); (case N => k_asm); (case h1 => k_mem); (case h2 => k_mem); (case h3 => k_mem); (case h4 => k_mem); (case hr => kst_in); (case f1 => assumption); (case f2 => assumption); (case f3 => assumption); (case f4 => assumption); (case hm => first | exact fun _ => rfl | exact Mine.wm1 (by with_unfolding_all rfl)); (case hp => first | exact Mine.WInv.yes1 (by assumption) (Mine.has_key (by assumption)) (by assumption) | exact Mine.WInv.yes0 (by assumption) ((Mine.BsInv.some (by assumption) (by assumption) (by assumption) (by assumption) (by assumption)).trans (by assumption)) (by assumption) | exact Mine.WInv.no (by assumption) (Mine.BsInv.none (by assumption) (by assumption) (by assumption) (by assumption) (by assumption)) | exact Mine.WInv.no (by assumption) ((Mine.BsInv.some (by assumption) (by assumption) (by assumption) (by assumption) (by assumption)).trans (by assumption))); (case hl => first | exact Mine.less_yes (by assumption) | exact Mine.less_no)))
local macro_rules | `(tactic| walk_at "BPost") => `(tactic| (dsimp only [Mine.BPost]))
local macro_rules | `(tactic| walk_at "BEnd") => `(tactic| k_dflt ((refine' Mine.BEnd.intro ?F ?N ?hs ?h1 ?h2 ?hm ?hp ?hl); (case F => k_asm); (case N => k_asm); (case hs => exact fun p hp => hp); (case h1 => with_unfolding_all rfl); (case h2 => with_unfolding_all rfl); (case hm => (intro z h1 h2 h3; simp [h1, h2, h3])); (case hp => first | exact Mine.BsInv.up' (by assumption) (by assumption) (by assumption) (by assumption) | exact Mine.BsInv.down' (by assumption) (by assumption) (by assumption) (by assumption)); (case hl => first | exact Mine.BsInv.lessU (by assumption) (by assumption) | exact Mine.BsInv.lessD (by assumption) (by assumption))))
local macro_rules | `(tactic| walk_at "compareOp Lt int int") => `(tactic| ((with_reducible show wpAny _ _ (compareOp CmpOp.Lt (Value.int (Int.ofNat (List.length _)) _) (Value.int 32 _)) _ _ _); k_dflt (refine Mine.lt_true (Mine.lt32 (by assumption)) ?_)))
local macro_rules | `(tactic| walk_at "compareOp Lt int int") => `(tactic| ((with_reducible show wpAny _ _ (compareOp CmpOp.Lt (Value.int (Nat.cast (List.length _)) _) (Value.int 32 _)) _ _ _); k_dflt (refine Mine.lt_true (Mine.lt32 (by assumption)) ?_)))
local macro_rules | `(tactic| walk_at "truthy bool") => `(tactic| ((with_reducible show wpAny _ _ (truthy (Value.bool (Txt.startswith _ (Str.ofString "")))) _ _ _); refine Mine.truthy_sw ?_))
local macro_rules | `(tactic| walk_at "subscriptTail") => `(tactic| (k_here; (with_reducible show wpAny _ _ (subscriptTail _ _ (Value.ref _) (Value.int (Int.fdiv _ 2) _)) _ _ _); k_dflt ((refine' KTb.item_list ?kl ?kw ?k0 ?k1 ?kf ?_); (case kl => exact Mine.my_isList (by k_asm) (by k_mem)); (case kw => assumption); (case k0 => exact Mine.BsInv.mid0 (by assumption) (by assumption)); (case k1 => exact Mine.BsInv.mid1 (by assumption) (by assumption)); (case kf => exact Mine.BsInv.fit (by assumption) (by assumption) (Mine.sz7 (by assumption) (by assumption)))); intro _ sgLt))
local macro_rules | `(tactic| walk_at "subscriptTail") => `(tactic| (k_here; (with_reducible show wpAny _ _ (subscriptTail (Expr.Attribute _ _ _) (Expr.Name _ _) (Value.ref _) (Value.int _ _)) _ _ _); k_dflt ((refine' KTb.item_list ?kl ?kw ?k0 ?k1 ?kf ?_); (case kl => exact Mine.my_isList (by k_asm) (by k_mem)); (case kw => assumption); (case k0 => exact Mine.BsInv.in0 (by assumption)); (case k1 => exact Mine.BsInv.in1 (by assumption) (by assumption) (by assumption)); (case kf => exact Mine.BsInv.in2 (by assumption) (by assumption) (Mine.sz7 (by assumption) (by assumption)))); intro _ sgLt))
local macro_rules | `(tactic| walk_at "compareOp Eq str str") => `(tactic| (k_dflt (refine Mine.eq_same ?_)))
local macro_rules | `(tactic| walk_at "compareOp Eq str str") => `(tactic| ((with_reducible show wpAny _ _ (compareOp CmpOp.Eq (Value.str (Txt.slice _ _ _) _) _) _ _ _); k_dflt ((refine Mine.eq_cut (by assumption) (by assumption) ?_); (rename News _ _ _ _ => nN'); (have nM' := Mine.drop12 nN'); (clear nN'))))
local macro_rules | `(tactic| walk_at "subscriptTail Name Slice str ref") => `(tactic| ((with_reducible show wpAny _ _ (subscriptTail _ (Expr.Slice none (some _) none _) _ _) _ _ _); (with_reducible rename Fr _ _ _ _ => F'); (with_reducible rename News _ _ _ _ => N'); (refine slice_strN_ns (hsz := ?hsz) (s := ⟨_, _, _, _, _⟩) F' N' ?_); (case hsz => exact Mine.front_sz (by assumption)); intro _ _ _ _ _))
local macro_rules | `(tactic| walk_at "call ref") => `(tactic| (k_here; (fail_if_success k_inElt); kts_any; k_dflt (refine wpAny_call ?_; (refine' Mine.call_catching ?k1 ?k2 ?k3 ?k4 ?k5 ?kA ?kf ?ke ?k6 ?k7 ?k8 ?k9 ?kB ?_ ?c2 ?c3 ?c4 ?c5); (case kA => exact rfl); (case kf => exact rfl); (case ke => exact rfl); (case k2 => k_asm); (case k1 => k_asm); (case k3 => k_asm); (case k4 => k_asm); (case k5 => k_asm); (case k6 => k_is); (case k7 => k_is); (case k8 => k_room); (case k9 => first | exact binds_K (by k_in) rfl (by k_is) rfl rfl rfl | exact BindsTo.of_eq rfl); (case kB => exact locs rfl); (case c2 => exact rfl); (case c3 => exact rfl); (case c4 => exact rfl); (case c5 => decide); k_whole; intro g' L' h' FG' F' N' B' X' T' D'; (try dsimp only); (try k_lift B'); (try k_fold))))
local macro_rules | `(tactic| walk_at "exec For Name Name cons nil") => `(tactic| (k_here; (rename Fr _ _ _ _ => lF'); (rename News _ _ _ _ => lN'); (rename Mine.BkInv _ _ => lB'); k_dflt ((refine' Mine.my_for (Mine.FInv _) ?hh lF' lN' ?le ?hne ?lo ?hd ?hf ?h2 ?h3 (Mine.FInv.start (Mine.BkInv.ok lB') (Mine.BkInv.fin lB')) ?he ?hst ?_ ?_); (case hh => exact rfl); (case le => exact rfl); (case hne => exact ⟨by k_all, by k_ne, by k_ne, by k_ne⟩); (case lo => assumption); (case hd => assumption); (case hf => assumption); (case h2 => assumption); (case h3 => assumption); (case he => exact fun Q' h => nameX_L lF' (by with_unfolding_all rfl) h); (case hst => exact fun v Q' E' s₁ o v₀ ho hd k => wpAny_storeName_cell (by rfl) (by rfl) (by rfl) ⟨o, ho, hd⟩ (fun h' ⟨o', ho', hd'⟩ hs => k h' o' ho' hd' hs)); (intro pre post key t rv rs rn ck cr I oI h tk hsp S' hP' hk' hr' l1 F' N'; clear lF' lN'; simp only [Mine.FLed, AllLt, and_true] at l1); (rotate_left); (intro rv rs rn ck cr v h tk S' hP' hk' hr' F' N'; clear lF' lN'); (rotate_left))))
local macro_rules | `(tactic| walk_at "FPost") => `(tactic| (dsimp only [Mine.FPost]))
local macro_rules | `(tactic| walk_at "FEnd") => `(tactic| k_dflt ((refine' Mine.FEnd.intro ?F ?N ?h1 ?h2 ?h3 ?hr ?f1 ?f2 ?f3 ?hm ?hp); (case F => k_asm); (case N => k_asm); (case h1 => k_mem); (case h2 => k_mem); (case h3 => k_mem); (case hr => kst_in); (case f1 => assumption); (case f2 => assumption); (case f3 => assumption); (case hm => exact fun _ => rfl); (case hp => exact Mine.FInv.step (by assumption) (by assumption))))
local macro_rules | `(tactic| walk_at "loadName") => `(tactic| (k_here; k_dflt (refine' wpAny_loadName_cell (by rfl) (by rfl) (by rfl) ⟨_, News.get (by k_asm) ?m, ?d⟩ ?_; (case m => k_mem); (case d => assumption))))
local macro_rules | `(tactic| walk_at "call builtin:sorted") => `(tactic| (k_here; (with_reducible show wpAny _ _ (call (Value.builtin "sorted") [Value.ref _]) _ _ _); k_dflt (refine' Mine.my_sorted (by k_asm) (by k_asm) ?m ?S ?z ?_; (case m => k_mem); (case S => assumption); (case z => first | exact Mine.FInv.len64 (by assumption) | exact Mine.WInv.len64 (by assumption))); intro B' h' vs' ss' e' F' N' l1 hS' hP' hO'; (try k_lt l1)))
local macro_rules | `(tactic| walk_at "compareOp Eq ref ref") => `(tactic| (k_here; k_dflt ((refine' Mine.my_eq_lists (by k_asm) ?m1 ?m2 ?S1 ?S2 ?e ?u ?_); (case m1 => k_mem); (case m2 => k_mem); (case S1 => assumption); (case S2 => assumption); (case e => first | exact Mine.fin1 (by assumption) (by assumption) (by assumption) (by assumption) (by assumption) | exact Mine.fin2 (by assumption) (by assumption) (by assumption) (by assumption)); (case u => k_units))))
local macro_rules | `(tactic| walk_at "eval ListComp") => `(tactic| (k_here; (with_reducible show wpAny _ _ (eval (Expr.ListComp _ [Comprehension.mk _ (Expr.Name _ _) [] _] _ _) _) _ _ _); (rename Fr _ _ _ _ => lF'); (rename News _ _ _ _ => lN'); k_dflt ((refine' Mine.book_comp (cl := []) lF' lN' ?p ?d ?lo ?hh ?n ?c1 ?c2 ?c3 ?c4 ?c5 ?he ?_); (case he => exact fun Q' h => nameX_L lF' (by with_unfolding_all rfl) h); (case p => k_mem); (case d => assumption); (case lo => assumption); (case hh => exact rfl); (case n => exact Mine.kvs_len (by assumption) (by assumption)); (case c1 => with_unfolding_all rfl); (case c2 => decide); (case c3 => exact rfl); (case c4 => decide); (case c5 => rfl); (clear lF' lN'); intro g'; (refine' Mine.book_rest (Mine.keys_eq (by assumption)) (fun k' t' I' oI' C' oC' D' m' ys' h' tk' E' hC' hx' F' N' off' ne' => ?_) (fun ys' hK' => ?_)))))
local macro_rules | `(tactic| walk_at "call builtin:len") => `(tactic| ((with_reducible show wpAny _ _ (call (Value.builtin "len") [Value.str _ _]) _ _ _); k_dflt (refine SBL.len (Mine.FInv.key63 (by assumption) (by assumption)) ?_)))
local macro_rules | `(tactic| walk_at "subscriptTail Name Slice str ref") => `(tactic| ((with_reducible show wpAny _ _ (subscriptTail _ (Expr.Slice none (some _) none _) _ _) _ _ _); (with_reducible rename Fr _ _ _ _ => F'); (with_reducible rename News _ _ _ _ => N'); (refine slice_strN_ns (hsz := ?hsz) (s := ⟨_, _, _, _, _⟩) F' N' ?_); (case hsz => exact Mine.FInv.keysz (by assumption) (by assumption)); intro _ _ _ _ _))
local macro_rules | `(tactic| walk_at "CompSrcT") => `(tactic| (k_here; k_dflt ((refine LCt.CompSrcT.range (by rfl) (by k_asm) (by k_asm) (by assumption) (Mine.FInv.small (by assumption) (by assumption)) Mine.FInv.n (Mine.FInv.nsz (by assumption) (by assumption)) ?_); intro g'; (refine' Mine.fronts_comp (by assumption) (by assumption) (fun k' t' I' oI' C' oC' D' m' ys' h' tk' E' hlo' hhi' hC' hx' F' N' off' ne' => ?_) (fun ys' hK' => ?_)))))
local macro_rules | `(tactic| walk_at "compareOp NotIn str ref") => `(tactic| (k_here; k_dflt (refine' notin_list_strs ?k1 ?k2 ?_; (case k1 => exact Mine.my_isList (by k_asm) (by k_mem)); (case k2 => assumption))))
local macro_rules | `(tactic| walk_at "FEl") => `(tactic| k_dflt exact Mine.FEl.of (by assumption))
local macro_rules | `(tactic| walk_at "FNo") => `(tactic| k_dflt exact Mine.FNo.of (by assumption))
local macro_rules | `(tactic| walk_at "call builtin:len") => `(tactic| ((with_reducible show wpAny _ _ (call (Value.builtin "len") [Value.str _ _]) _ _ _); k_dflt (refine SBL.len (Mine.front_63 (by assumption)) ?_)))
local macro_rules | `(tactic| walk_at "call type:range") => `(tactic| (k_here; (with_reducible show wpAny _ _ (call _ [Value.int 1 _, Value.int _ _]) _ _ _); (rename Fr _ _ _ _ => F'); (rename News _ _ _ _ => N'); k_dflt ((with_unfolding_all refine range2_rows F' N' ?_); intro _ _ _ _ _ _ _ _ _)))
local macro_rules | `(tactic| walk_at "pyIter ref") => `(tactic| (k_here; k_of "i" => (k_dflt ((rename Fr _ _ _ _ => lF'); (rename News _ _ _ _ => lN'); (rename IsRange _ _ _ _ _ _ _ _ => rgX); (refine' Mine.front_range (by assumption) (by rfl) rgX lF' lN' (fun k t h tk own hk0 hk1 hoff F' N' => ?_) (fun u h tk F' N' => ?_)); (all_goals (clear lF' lN')); (all_goals (try k_fold))))))
local macro_rules | `(tactic| walk_at "InvEndN") => `(tactic| k_dflt ((rename News _ _ _ _ => nE'); (refine' Mine.front_end ?F nE' ?hr ?ho ?ha ?hm); (case F => assumption); (case ha => rfl); (case hr => (intro p hp; kst_mem)); (case ho => (intro p hp; kst_mem)); (case hm => (intro z h1; simp [h1]))))
set_option maxRecDepth 100000 in
set_option maxHeartbeats 8000000 in
theorem PySem.Challenge.cw_ru0001_02_holds : PySem.Challenge.rw_ru0001_02.Holds := by
  k_with "state" => exact Mine.BkInv.nil
  k_with "state" => exact Mine.TxtInv.nil
  k_with "pyIter ref" => (k_of "k" => k_state (fun (pre : List Int) (c : List (Str × Int)) => Mine.BkInv pre c) "book$")
  k_with "pyIter ref" => (k_of "_" => k_state (fun (pre : List Int) (n : Int) (t : Str) => Mine.TxtInv pre n t) "n" "text")
  w_on; o_law; k_head; (case hw => w_witness2)
  w_strict (k_go0; (repeat' (first | (k_unfold; (try dsimp only)) | ((with_reducible show GoodW _ _ _ _ _ _ _); k_end; wrow_close) | walk1 | (dsimp only; walk1) | (leave1; walk_say "STEP leave1"; try dsimp only) | (k_end; wrow_close) | fail "no step")))
