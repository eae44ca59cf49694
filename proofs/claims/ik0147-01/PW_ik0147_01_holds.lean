import PyProof.Rows.All
import Wide.All
import OpenK.AllK
import Wide.FinOn
import KE.KItemsList
import KE.KDictIter
import Lean
import PySem.Challenge.RW_ik0147_01
set_option compiler.extract_closed false
set_option Elab.async false
set_option maxRecDepth 100000
set_option maxHeartbeats 0
open PySem PySem.W PyProof.Rows
namespace Mine
section SS1
open PySem PySem.W PyProof.Rows PySem.Calls
set_option Elab.async false
set_option maxRecDepth 100000
/-- the tree of questions, all answered by lt -/
noncomputable def runT {α : Type} (lt : Nat → Nat → Bool) : KasT α → α
  | .ret a => a
  | .ask i j k => runT lt (k (lt i j))
/-- all questions below n, all ends P -/
noncomputable def OkT {α : Type} (n : Nat) (P : α → Prop) : KasT α → Prop
  | .ret a => P a
  | .ask i j k => i < n ∧ j < n ∧ ∀ b, OkT n P (k b)
theorem okT_bind {α β : Type} {n : Nat} {P : α → Prop} {R : β → Prop} {f : α → KasT β} (h : ∀ a, P a → OkT n R (f a)) : ∀ t : KasT α, OkT n P t → OkT n R (t.bind f)
  | .ret a, x => h a x
  | .ask _ _ k, x => ⟨x.1, x.2.1, fun b => okT_bind h (k b) (x.2.2 b)⟩
theorem okT_run {α : Type} {n : Nat} {P : α → Prop} (lt : Nat → Nat → Bool) : ∀ t : KasT α, OkT n P t → P (runT lt t)
  | .ret _, x => x
  | .ask i j k, x => okT_run lt (k (lt i j)) (x.2.2 _)
theorem okT_if {α : Type} {n : Nat} {P : α → Prop} {c : Prop} [Decidable c] {a b : KasT α} (h1 : OkT n P a) (h2 : OkT n P b) : OkT n P (if c then a else b) := by split <;> assumption
theorem kas_run {α : Type} {n : Nat} {P : α → Prop} {cmp : Nat → Nat → (Bool → Shared → Prop) → Shared → Prop} {I : Shared → Prop} {lt : Nat → Nat → Bool} {Q : α → Shared → Prop}
    (hc : ∀ i j, i < n → j < n → ∀ (s : Shared) (C : Bool → Shared → Prop), I s → (∀ s', I s' → C (lt i j) s') → cmp i j C s) : ∀ (t : KasT α) (s : Shared), OkT n P t → I s → (∀ s', I s' → Q (runT lt t) s') → t.kasWp cmp Q s
  | .ret _, s, _, i, h => h s i
  | .ask i j k, s, o, hi, h => hc i j o.1 o.2.1 s _ hi fun s' hi' => kas_run hc (k (lt i j)) s' (o.2.2 _) hi' h
structure Pm (n : Nat) (p : Array Nat) : Prop where
  sz : p.size = n
  lt : ∀ i, p.getD i 0 < n
theorem Pm.swap {n : Nat} {p : Array Nat} (h : Pm n p) (i j : Nat) : Pm n (p.swapIfInBounds i j) := by
  refine ⟨by rw [Array.size_swapIfInBounds, h.sz], fun k => ?_⟩
  by_cases hi : i < p.size
  · by_cases hj : j < p.size
    · rw [Array.getD_eq_getD_getElem?, getElem?_swapIB hi hj]
      have a := h.lt i
      have b := h.lt j
      have c := h.lt k
      rw [Array.getD_eq_getD_getElem?] at a b c
      split
      · exact a
      · split
        · exact b
        · exact c
    · rw [Array.swapIfInBounds_def]; simp only [hi, hj, dite_true, dite_false]; exact h.lt k
  · rw [Array.swapIfInBounds_def]; simp only [hi, dite_false]; exact h.lt k
theorem Pm.swaps {n : Nat} (u v : Nat → Nat) : ∀ (l : List Nat) {p : Array Nat}, Pm n p → Pm n (l.foldl (fun a k => a.swapIfInBounds (u k) (v k)) p)
  | [], _, h => h
  | k :: l, _, h => Pm.swaps u v l (h.swap (u k) (v k))
theorem Pm.rev {n : Nat} {p : Array Nat} (h : Pm n p) (i j : Nat) : Pm n (kas_rev p i j) := Pm.swaps (fun k => i + k) (fun k => j - 1 - k) _ h
theorem Pm.bub {n : Nat} {p : Array Nat} (h : Pm n p) (k l : Nat) : Pm n (bubble p k l) := Pm.swaps (fun i => k - i) (fun i => k - i - 1) _ h
theorem ok_asc {n : Nat} {p : Array Nat} (h : Pm n p) : ∀ (f m : Nat), OkT n (fun _ => True) (kas_asc p f m)
  | 0, _ => trivial
  | f + 1, m => ⟨h.lt _, h.lt _, fun _ => okT_if trivial (ok_asc h f (m + 1))⟩
theorem ok_desc {n : Nat} : ∀ (f : Nat) {p : Array Nat} (m q : Nat), Pm n p → OkT n (fun r => Pm n r.1) (kas_desc f p m q)
  | 0, _, _, _, h => h
  | f + 1, _, _, _, h => ⟨h.lt _, h.lt _, fun _ => okT_if (okT_if (ok_desc f _ _ (h.rev _ _)) (ok_desc f _ _ h)) ⟨h.lt _, h.lt _, fun _ => okT_if h (ok_desc f _ _ h)⟩⟩
theorem ok_tail3 {n : Nat} {p : Array Nat} (h : Pm n p) (a b : Nat) : OkT n (fun r => Pm n r.2) (kas_tail3 a b p) := by
  unfold kas_tail3
  refine okT_bind (P := fun _ => True) (fun _ _ => ?_) _ (ok_asc (h.rev _ _) _ _)
  exact h.rev _ _
theorem ok_descPart {n : Nat} {p : Array Nat} (h : Pm n p) (a b : Nat) : OkT n (fun r => Pm n r.2) (kas_descPart a b p) := by
  unfold kas_descPart
  refine okT_bind (P := fun r : Array Nat × Nat × Nat => Pm n r.1) ?_ _ (ok_desc _ _ _ h)
  intro r hr
  exact okT_if (ok_tail3 (hr.rev _ _) _ _) (ok_tail3 hr _ _)
theorem ok_count {n : Nat} {p : Array Nat} (h : Pm n p) (b : Nat) : OkT n (fun r => Pm n r.2) (kas_count b p) := by
  unfold kas_count
  refine okT_bind (P := fun _ => True) ?_ _ (ok_asc h _ _)
  intro r _
  refine okT_if ?_ (okT_if ?_ (ok_descPart h _ _))
  · exact h
  · refine ⟨h.lt _, h.lt _, fun _ => okT_if ?_ (ok_descPart (h.rev _ _) _ _)⟩
    exact h
theorem ok_place {n : Nat} {p : Array Nat} (h : Pm n p) (k : Nat) : ∀ (f l r : Nat), OkT n (fun _ => True) (kas_place p k f l r)
  | 0, _, _ => trivial
  | f + 1, _, _ => okT_if trivial ⟨h.lt _, h.lt _, fun _ => okT_if (ok_place h k f _ _) (ok_place h k f _ _)⟩
theorem ok_bin {n : Nat} : ∀ (f : Nat) {p : Array Nat} (k : Nat), Pm n p → OkT n (fun r => Pm n r) (kas_bin f p k)
  | 0, _, _, h => h
  | f + 1, _, _, h => okT_bind (fun _ _ => ok_bin f _ (h.bub _ _)) _ (ok_place h _ _ _ _)
theorem ok_sort {n : Nat} (hn : 0 < n) : OkT n (fun r => Pm n r) (kas_sort n) := by
  have h0 : Pm n (List.toArray (List.range n)) := ⟨by simp, fun i => by
    rw [Array.getD_eq_getD_getElem?]
    by_cases h : i < n
    · simp [h]
    · simp [h, hn]⟩
  unfold kas_sort
  refine okT_bind (P := fun r : Nat × Array Nat => Pm n r.2) ?_ _ (ok_count h0 n)
  intro r hr
  refine okT_if (ok_bin _ _ hr) ?_
  exact hr
/-- the order that a sort by lt puts n items into -/
noncomputable def sortP (n : Nat) (lt : Nat → Nat → Bool) : List Nat := (runT lt (kas_sort n)).toList
theorem sortP_len {n : Nat} (hn : 0 < n) (lt : Nat → Nat → Bool) : (sortP n lt).length = n := by
  have := (okT_run lt _ (ok_sort hn)).sz
  unfold sortP; rw [Array.length_toList]; exact this
theorem sortP_lt {n : Nat} (hn : 0 < n) (lt : Nat → Nat → Bool) : ∀ i ∈ sortP n lt, i < n := by
  intro i hi
  have h := (okT_run lt _ (ok_sort hn)).lt
  obtain ⟨k, hk, rfl⟩ := List.getElem_of_mem hi
  have := h k
  rw [Array.getD_eq_getD_getElem?, ← Array.getElem?_toList] at this
  unfold sortP at hk ⊢
  rw [List.getElem?_eq_getElem hk] at this
  exact this
theorem runT_congr {α : Type} {n : Nat} {P : α → Prop} {lt lt' : Nat → Nat → Bool} (he : ∀ i j, i < n → j < n → lt i j = lt' i j) : ∀ t : KasT α, OkT n P t → runT lt t = runT lt' t
  | .ret _, _ => rfl
  | .ask i j k, o => by
    show runT lt (k (lt i j)) = runT lt' (k (lt' i j))
    rw [he i j o.1 o.2.1]
    exact runT_congr he (k (lt' i j)) (o.2.2 _)
theorem sortP_congr {n : Nat} (hn : 0 < n) {lt lt' : Nat → Nat → Bool} (he : ∀ i j, i < n → j < n → lt i j = lt' i j) : sortP n lt = sortP n lt' := by
  unfold sortP; rw [runT_congr he _ (ok_sort hn)]
end SS1
section SS2
open PySem PySem.W PyProof.Rows PySem.Calls
set_option Elab.async false
set_option maxRecDepth 100000
noncomputable abbrev Led2 := List (Addr × Obj)
noncomputable def Ap (as : List Addr) (led : Led2) : Prop := ∀ a ∈ as, ∀ q ∈ led, a ≠ q.1
section
variable {prog : Program} {w : World} {A : Around} {E : Value → Shared → Prop} {h₀ : Heap} {L : Addr} {m : Str → Option Value} {vs : List Value} {f : Value} {R : Led2 → Prop} {Key : Led2 → Nat → Value → Prop} {lt : Nat → Nat → Bool} {s : Shared} {D kS : Addr} {e1 : Nat}
/-- where the sort stands: its two lists, the keys made so far, the rest of the ledger -/
noncomputable def SortSt' (h₀ : Heap) (L : Addr) (m : Str → Option Value) (R : Led2 → Prop) (Key : Led2 → Nat → Value → Prop) (s : Shared) (D kS : Addr) (e1 : Nat) (ks : List Value) (e : Nat) (st : Shared) : Prop :=
  ∃ led h tk, st = { s with heap := h, toks := tk } ∧ R led ∧ Ap [kS, D] led ∧ Fr h₀ L h m ∧ News h₀ L h ((kS, seqObj "list" (List.toArray ks) e) :: (D, seqObj "list" #[] e1) :: led) ∧ ∀ (i : Nat) k, ks[i]? = some k → Key led i k
theorem ap_upd {kS D : Addr} (hDk : D ≠ kS) {o1 o2 : Obj} {led : Led2} (h : Ap [kS, D] led) : UpdF kS o1 ((kS, o1) :: (D, o2) :: led) (fun o' => (kS, o') :: (D, o2) :: led) := .head fun p hp => by
  rcases List.mem_cons.mp hp with rfl | hp
  · exact hDk
  · exact (h kS (.head _) p hp).symm
theorem ap_upd2 {kS D : Addr} (hDk : D ≠ kS) {o1 o2 : Obj} {led : Led2} (h : Ap [kS, D] led) : UpdF D o2 ((kS, o1) :: (D, o2) :: led) (fun o' => (kS, o1) :: (D, o') :: led) := .tail hDk.symm (.head fun p hp => (h D (.tail _ (.head _)) p hp).symm)
theorem exl {kS D : Addr} {xs ys : Array Value} {e e1 : Nat} : ∀ p ∈ [(kS, seqObj "list" xs e), (D, seqObj "list" ys e1)], ∃ xs n, p.2 = seqObj "list" xs n := fun p hp => by
  rcases List.mem_cons.mp hp with rfl | hp
  · exact ⟨_, _, rfl⟩
  · rcases List.mem_cons.mp hp with rfl | hp
    · exact ⟨_, _, rfl⟩
    · cases hp
theorem keys_ind (hDk : D ≠ kS)
    (hkey : ∀ (i : Nat) (v : Value) (ex led : Led2) (s : Shared) (Q : Value → Shared → Prop), vs[i]? = some v → R led → (∀ p ∈ ex, ∃ xs n, p.2 = seqObj "list" xs n) → Ap (ex.map (·.1)) led → Fr h₀ L s.heap m → News h₀ L s.heap (ex ++ led) →
      (∀ k led' h' tk', R led' → (∀ i k, Key led i k → Key led' i k) → Ap (ex.map (·.1)) led' → Fr h₀ L h' m → News h₀ L h' (ex ++ led') → Key led' i k → Q k { s with heap := h', toks := tk' }) →
      wpAny (model prog w) A (call f [v]) Q (fun _ _ => False) s) {Fin : List Value → Nat → Shared → Prop}
    (fin : ∀ ks e st, ks.length = vs.length → SortSt' h₀ L m R Key s D kS e1 ks e st → Fin ks e st) :
    ∀ (r ks : List Value) (e : Nat) (st : Shared), vs.drop ks.length = r → ks.length ≤ vs.length → SortSt' h₀ L m R Key s D kS e1 ks e st → KatKeys prog w A h₀ L m kS f Fin r ks e st
  | [], ks, e, st, hr, hle, hs => KatKeys.nil (fin ks e st (by have := List.drop_eq_nil_iff.mp hr; omega) hs)
  | v :: r, ks, e, st, hr, hle, hs => by
    obtain ⟨led, h, tk, rfl, hR, hap, F, N, hk⟩ := hs
    have hlt : ks.length < vs.length := by
      rcases Nat.lt_or_ge ks.length vs.length with x | x
      · exact x
      · rw [List.drop_eq_nil_of_le x] at hr; cases hr
    have hv : vs[ks.length]? = some v := by
      have := congrArg List.head? hr
      rw [List.head?_drop] at this
      exact this
    have hd : vs.drop (ks.length + 1) = r := by
      rw [← List.tail_drop, hr]; rfl
    refine KatKeys.cons (hkey ks.length v [(kS, seqObj "list" (List.toArray ks) e), (D, seqObj "list" #[] e1)] led _ _ hv hR exl hap F N fun k led' h' tk' hR' hg hap' F' N' hk' => ?_)
    refine KatBack.intro F' N' (ap_upd hDk hap') fun h2 c F2 N2 => ?_
    refine keys_ind hDk hkey fin r (ks ++ [k]) c _ ?_ ?_ ⟨led', h2, tk', rfl, hR', hap', F2, N2, fun i k2 hi => ?_⟩
    · rw [List.length_append, List.length_singleton]; exact hd
    · rw [List.length_append, List.length_singleton]; exact hlt
    · rcases Nat.lt_trichotomy i ks.length with x | x | x
      · rw [List.getElem?_append_left x] at hi; exact hg _ _ (hk i k2 hi)
      · subst x
        rw [List.getElem?_append_right (Nat.le_refl _), Nat.sub_self] at hi
        cases hi; exact hk'
      · rw [List.getElem?_eq_none (by rw [List.length_append, List.length_singleton]; omega)] at hi; cases hi
theorem sorted_gen {l : Addr} {kw : List (Str × Value)} {Q : Value → Shared → Prop} {led : Led2} {T : Value} (F : Fr h₀ L s.heap m) (N : News h₀ L s.heap led) (hR : R led) (hl : s.heap.IsList l vs.toArray) (h2 : 2 ≤ vs.length) (h64 : vs.length < 64)
    (ha1 : argsOk "sorted" ⟨[.ref l], kw⟩) (ha2 : ∀ x, argsOk "list.sort" ⟨[.ref x], kw⟩) (ht : ∀ x, Builtin.«list.sort» ⟨[.ref x], kw⟩ = ksk_tree x f false)
    (hkey : ∀ (i : Nat) (v : Value) (ex led : Led2) (s : Shared) (Q : Value → Shared → Prop), vs[i]? = some v → R led → (∀ p ∈ ex, ∃ xs n, p.2 = seqObj "list" xs n) → Ap (ex.map (·.1)) led → Fr h₀ L s.heap m → News h₀ L s.heap (ex ++ led) →
      (∀ k led' h' tk', R led' → (∀ i k, Key led i k → Key led' i k) → Ap (ex.map (·.1)) led' → Fr h₀ L h' m → News h₀ L h' (ex ++ led') → Key led' i k → Q k { s with heap := h', toks := tk' }) →
      wpAny (model prog w) A.in1.in1 (call f [v]) Q (fun _ _ => False) s)
    (hlt : ∀ (i j : Nat) (ki kj : Value) (ex led : Led2) (s : Shared) (Q : Bool → Shared → Prop), i < vs.length → j < vs.length → R led → Key led i ki → Key led j kj → (∀ p ∈ ex, ∃ xs n, p.2 = seqObj "list" xs n) → Ap (ex.map (·.1)) led → Fr h₀ L s.heap m → News h₀ L s.heap (ex ++ led) →
      (∀ led' h' tk', R led' → (∀ i k, Key led i k → Key led' i k) → Ap (ex.map (·.1)) led' → Fr h₀ L h' m → News h₀ L h' (ex ++ led') → Q (lt i j) { s with heap := h', toks := tk' }) →
      wpAny (model prog w) A.in1.in1 (keyLt' oneType' ki kj) Q (fun _ _ => False) s)
    (hT : ∀ led ex h i k, Key led i k → News h₀ L h (ex ++ led) → Looks (model prog w) h (typeOf k) T) (hT1 : (T != .type "tuple") = true) (hT2 : (T == T) = true)
    (hret : ∀ D kS c c' led' h' tk', R led' → Ap [kS, D] led' → D < kS → (∀ q ∈ led, q.1 < D) → Fr h₀ L h' m → News h₀ L h' ((kS, seqObj "list" #[] c) :: (D, W.listOf (List.toArray ((sortP vs.length lt).map fun i => vs.getD i .none)) c') :: led') → Q (.ref D) { s with heap := h', toks := tk' }) :
    wpAny (model prog w) A (call (.builtin "sorted") [.ref l] kw) Q E s := by
  refine kat_sortedK F N hl h2 h64 ha1 ha2 ht fun D kS e1 h' F' N' lDk lq => ?_
  have hDk : D ≠ kS := Nat.ne_of_lt lDk
  refine keys_ind (s := s) (D := D) (e1 := e1) (R := R) (Key := Key) hDk hkey (fun ks e st hlen hs => ?_) vs [] 0 _ rfl (Nat.zero_le _) ⟨led, h', s.toks, rfl, hR, ?_, F', N', fun i k hi => by cases hi⟩
  · refine kas_kind (by omega) (fun v hv => ?_) hT1 hT2 ?_
    · obtain ⟨led', h2', tk', rfl, hR', hap', F2, N2, hk⟩ := hs
      obtain ⟨i, hi, rfl⟩ := List.getElem_of_mem hv
      exact hT led' [(kS, seqObj "list" (List.toArray ks) e), (D, seqObj "list" #[] e1)] h2' i _ (hk i _ (List.getElem?_eq_getElem hi)) N2
    · refine kas_run (n := vs.length) (P := fun r => Pm vs.length r) (I := SortSt' h₀ L m R Key s D kS e1 ks e) (lt := lt) (fun i j hi hj st C hst hC => ?_) _ _ (ok_sort (by omega)) hs fun st hst => ?_
      · obtain ⟨led', h2', tk', rfl, hR', hap', F2, N2, hk⟩ := hst
        have gi : ks[i]? = some (ks.getD i .none) := by rw [List.getD_eq_getElem?_getD, List.getElem?_eq_getElem (by omega)]; rfl
        have gj : ks[j]? = some (ks.getD j .none) := by rw [List.getD_eq_getElem?_getD, List.getElem?_eq_getElem (by omega)]; rfl
        exact hlt i j _ _ [(kS, seqObj "list" (List.toArray ks) e), (D, seqObj "list" #[] e1)] led' _ _ hi hj hR' (hk i _ gi) (hk j _ gj) exl hap' F2 N2 fun led3 h3 tk3 hR3 hg3 hap3 F3 N3 => hC _ ⟨led3, h3, tk3, rfl, hR3, hap3, F3, N3, fun i k hi => hg3 _ _ (hk i k hi)⟩
      · obtain ⟨led', h2', tk', rfl, hR', hap', F2, N2, hk⟩ := hst
        refine KatFin.intro F2 N2 (ap_upd hDk hap') fun h3 c F3 N3 => ?_
        refine KasFin.intro F3 N3 (ap_upd2 hDk hap') fun h4 c' F4 N4 => ?_
        exact hret D kS c c' led' h4 tk' hR' hap' lDk lq F4 N4
  · intro a ha q hq
    rcases List.mem_cons.mp ha with rfl | ha
    · exact Nat.ne_of_gt (Nat.lt_trans (lq q hq) lDk)
    · rcases List.mem_cons.mp ha with rfl | ha
      · exact Nat.ne_of_gt (lq q hq)
      · cases ha
end
end SS2
section SHD
open PySem PySem.W PyProof.Rows
set_option Elab.async false
set_option maxRecDepth 100000
set_option maxHeartbeats 0
/-- the row's statement i, and the statement i of its one class -/
noncomputable def topSt (i : Nat) : Stmt := PySem.Challenge.pw_ik0147_01.main.body.getD i (.Pass ⟨0, 0, 0, 0⟩)
noncomputable def entSt (i : Nat) : Stmt := match topSt 2 with
  | .ClassDef _ _ _ b _ _ _ _ _ _ _ => b.getD i (.Pass ⟨0, 0, 0, 0⟩)
  | s => s
/-- the function that the def s makes -/
noncomputable def fnOb (s : Stmt) (q : String) (df kw md cd : Value) : Obj := match s with
  | .FunctionDef n p b _ _ _ sc _ _ _ => { cls := .type "function", data := .func { name := n, qualname := Str.ofString q, params := p, body := .stmts b, scope := sc, globals := 3, closure := [], defaults := df, kwdefaults := kw, pyModule := md, code := cd } }
  | _ => { cls := .none, data := .plain }
noncomputable abbrev ent (P : Params) (x : String) (t : Tok) (v : Value) : DictEntry := { hash := PyData.keyHash P (Str.ofString x), key := .str (Str.ofString x) t, val := v }
/-- the objects that the law can come to, as the top leaves them -/
noncomputable def hK : Params → Frag := fun P =>
  (nat_lit 2, { cls := Value.none, data := Data.dict #[] }) ::
  (nat_lit 3, { cls := Value.type "dict", data := Data.dict #[ent P "__name__" 165 (Value.str (Str.ofString "law_ik0147_01") 331), ent P "__doc__" 166 (Value.none), ent P "__package__" 167 (Value.none), ent P "__loader__" 168 (Value.builtin "__main__.__loader__#opaque"), ent P "__spec__" 169 (Value.none), ent P "__annotations__" 170 (Value.ref 6), ent P "__builtins__" 171 (Value.ref 4), ent P "__file__" 173 (Value.str (Str.ofString "/claim/cut.py") 172), ent P "__cached__" 174 (Value.none), ent P "_wall" 193 (Value.ref 21), ent P "Entry" 252 (Value.ref 59), ent P "merge_entries" 261 (Value.ref 70), ent P "_buffer" 271 (Value.ref 77), ent P "_truth" 279 (Value.ref 84), ent P "_B64" 281 (Value.bytes #[65, 66, 67, 68, 69, 70, 71, 72, 73, 74, 75, 76, 77, 78, 79, 80, 81, 82, 83, 84, 85, 86, 87, 88, 89, 90, 97, 98, 99, 100, 101, 102, 103, 104, 105, 106, 107, 108, 109, 110, 111, 112, 113, 114, 115, 116, 117, 118, 119, 120, 121, 122, 48, 49, 50, 51, 52, 53, 54, 55, 56, 57, 43, 47] 280), ent P "b2a_base64" 295 (Value.ref 92), ent P "b64encode" 306 (Value.ref 100), ent P "cmp_to_key" 317 (Value.ref 107), ent P "_initial_missing" 318 (Value.ref 108), ent P "reduce" 330 (Value.ref 116), ent P "_law_drawn" 338 (Value.ref 121), ent P "_law_record" 348 (Value.ref 128), ent P "_law_turn" 360 (Value.ref 135), ent P "_law_written" 366 (Value.ref 140), ent P "_law_text" 372 (Value.ref 145), ent P "law" 378 (Value.ref 150)] 26 }) ::
  (nat_lit 15, { cls := Value.type "tuple", data := Data.seq #[] }) ::
  (nat_lit 17, { cls := Value.type "tuple", data := Data.seq #[Value.str (Str.ofString "k") 190] }) ::
  (nat_lit 18, { cls := Value.type "tuple", data := Data.seq #[] }) ::
  (nat_lit 20, { cls := Value.type "code", data := Data.fields #[Value.str (Str.ofString "_wall") 187, Value.str (Str.ofString "_wall") 188, Value.str (Str.ofString "/claim/cut.py") 189, Value.int 1 0, Value.int 1 0, Value.int 0 0, Value.int 0 0, Value.int 3 0, Value.ref 15, Value.bool true, Value.int 181 0, Value.ref 16, Value.none, Value.ref 17, Value.ref 18, Value.ref 19, Value.int 191 0, Value.int 1 0, Value.str (Str.ofString "/claim/cut.py") 192] }) ::
  (nat_lit 21, fnOb (topSt 0) "_wall" Value.none Value.none (Value.str (Str.ofString "__main__") 164) (Value.ref 20)) ::
  (nat_lit 29, { cls := Value.type "tuple", data := Data.seq #[] }) ::
  (nat_lit 31, { cls := Value.type "tuple", data := Data.seq #[Value.str (Str.ofString "self") 211] }) ::
  (nat_lit 32, { cls := Value.type "tuple", data := Data.seq #[] }) ::
  (nat_lit 34, { cls := Value.type "code", data := Data.fields #[Value.str (Str.ofString "__init__") 208, Value.str (Str.ofString "Entry.__init__") 209, Value.str (Str.ofString "/claim/cut.py") 210, Value.int 7 0, Value.int 1 0, Value.int 0 0, Value.int 0 0, Value.int 3 0, Value.ref 29, Value.bool true, Value.int 181 0, Value.ref 30, Value.none, Value.ref 31, Value.ref 32, Value.ref 33, Value.int 212 0, Value.int 7 0, Value.str (Str.ofString "/claim/cut.py") 213] }) ::
  (nat_lit 35, fnOb (entSt 0) "Entry.__init__" Value.none Value.none (Value.str (Str.ofString "cpy313.urllib.robotparser") 194) (Value.ref 34)) ::
  (nat_lit 36, { cls := Value.type "tuple", data := Data.seq #[] }) ::
  (nat_lit 38, { cls := Value.type "tuple", data := Data.seq #[Value.str (Str.ofString "self") 218, Value.str (Str.ofString "ret") 219, Value.str (Str.ofString "agent") 220, Value.str (Str.ofString "rate") 221] }) ::
  (nat_lit 39, { cls := Value.type "tuple", data := Data.seq #[] }) ::
  (nat_lit 41, { cls := Value.type "code", data := Data.fields #[Value.str (Str.ofString "__str__") 215, Value.str (Str.ofString "Entry.__str__") 216, Value.str (Str.ofString "/claim/cut.py") 217, Value.int 13 0, Value.int 1 0, Value.int 0 0, Value.int 0 0, Value.int 3 0, Value.ref 36, Value.bool true, Value.int 181 0, Value.ref 37, Value.none, Value.ref 38, Value.ref 39, Value.ref 40, Value.int 222 0, Value.int 13 0, Value.str (Str.ofString "/claim/cut.py") 223] }) ::
  (nat_lit 42, fnOb (entSt 1) "Entry.__str__" Value.none Value.none (Value.str (Str.ofString "cpy313.urllib.robotparser") 194) (Value.ref 41)) ::
  (nat_lit 43, { cls := Value.type "tuple", data := Data.seq #[] }) ::
  (nat_lit 45, { cls := Value.type "tuple", data := Data.seq #[Value.str (Str.ofString "self") 228, Value.str (Str.ofString "useragent") 229] }) ::
  (nat_lit 46, { cls := Value.type "tuple", data := Data.seq #[] }) ::
  (nat_lit 48, { cls := Value.type "code", data := Data.fields #[Value.str (Str.ofString "applies_to") 225, Value.str (Str.ofString "Entry.applies_to") 226, Value.str (Str.ofString "/claim/cut.py") 227, Value.int 30 0, Value.int 2 0, Value.int 0 0, Value.int 0 0, Value.int 3 0, Value.ref 43, Value.bool true, Value.int 181 0, Value.ref 44, Value.none, Value.ref 45, Value.ref 46, Value.ref 47, Value.int 230 0, Value.int 30 0, Value.str (Str.ofString "/claim/cut.py") 231] }) ::
  (nat_lit 49, fnOb (entSt 2) "Entry.applies_to" Value.none Value.none (Value.str (Str.ofString "cpy313.urllib.robotparser") 194) (Value.ref 48)) ::
  (nat_lit 50, { cls := Value.type "tuple", data := Data.seq #[] }) ::
  (nat_lit 52, { cls := Value.type "tuple", data := Data.seq #[Value.str (Str.ofString "self") 236, Value.str (Str.ofString "filename") 237] }) ::
  (nat_lit 53, { cls := Value.type "tuple", data := Data.seq #[] }) ::
  (nat_lit 55, { cls := Value.type "code", data := Data.fields #[Value.str (Str.ofString "allowance") 233, Value.str (Str.ofString "Entry.allowance") 234, Value.str (Str.ofString "/claim/cut.py") 235, Value.int 33 0, Value.int 2 0, Value.int 0 0, Value.int 0 0, Value.int 3 0, Value.ref 50, Value.bool true, Value.int 181 0, Value.ref 51, Value.none, Value.ref 52, Value.ref 53, Value.ref 54, Value.int 238 0, Value.int 33 0, Value.str (Str.ofString "/claim/cut.py") 239] }) ::
  (nat_lit 56, fnOb (entSt 3) "Entry.allowance" Value.none Value.none (Value.str (Str.ofString "cpy313.urllib.robotparser") 194) (Value.ref 55)) ::
  (nat_lit 57, { cls := Value.type "tuple", data := Data.seq #[Value.str (Str.ofString "delay") 241, Value.str (Str.ofString "req_rate") 242, Value.str (Str.ofString "rulelines") 243, Value.str (Str.ofString "useragents") 244] }) ::
  (nat_lit 58, { cls := Value.type "dict", data := Data.dict #[ent P "__module__" 203 (Value.str (Str.ofString "cpy313.urllib.robotparser") 194), ent P "__firstlineno__" 207 (Value.int 5 206), ent P "__init__" 214 (Value.ref 35), ent P "__str__" 224 (Value.ref 42), ent P "applies_to" 232 (Value.ref 49), ent P "allowance" 240 (Value.ref 56), ent P "__static_attributes__" 245 (Value.ref 57), ent P "__dict__" 247 (Value.ref 60), ent P "__weakref__" 249 (Value.ref 61), ent P "__doc__" 250 (Value.none)] 4 }) ::
  (nat_lit 59, { cls := Value.type "type", data := Data.cls { name := Str.ofString "Entry", bases := [Value.type "object"], mro := [Value.ref 59, Value.type "object"], ns := 58, qualname := Str.ofString "Entry" }, slots := #[none, none, some (Value.str (Str.ofString "Entry") 196), some (Value.str (Str.ofString "Entry") 204), some (Value.builtin "object.__new__"), some (Value.bool true)] }) ::
  (nat_lit 60, { cls := Value.type "getset_descriptor", data := Data.fields #[Value.str (Str.ofString "__dict__") 246, Value.ref 59, Value.builtin "function.__dict__", Value.builtin "function.__dict__#set"] }) ::
  (nat_lit 61, { cls := Value.type "getset_descriptor", data := Data.fields #[Value.str (Str.ofString "__weakref__") 248, Value.ref 59, Value.builtin "ExceptionGroup.__weakref__", Value.none] }) ::
  (nat_lit 64, { cls := Value.type "tuple", data := Data.seq #[] }) ::
  (nat_lit 66, { cls := Value.type "tuple", data := Data.seq #[Value.str (Str.ofString "e1") 256, Value.str (Str.ofString "e2") 257, Value.str (Str.ofString "entry") 258] }) ::
  (nat_lit 67, { cls := Value.type "tuple", data := Data.seq #[] }) ::
  (nat_lit 69, { cls := Value.type "code", data := Data.fields #[Value.str (Str.ofString "merge_entries") 253, Value.str (Str.ofString "merge_entries") 254, Value.str (Str.ofString "/claim/cut.py") 255, Value.int 35 0, Value.int 2 0, Value.int 0 0, Value.int 0 0, Value.int 3 0, Value.ref 64, Value.bool true, Value.int 181 0, Value.ref 65, Value.none, Value.ref 66, Value.ref 67, Value.ref 68, Value.int 259 0, Value.int 35 0, Value.str (Str.ofString "/claim/cut.py") 260] }) ::
  (nat_lit 70, fnOb (topSt 3) "merge_entries" Value.none Value.none (Value.str (Str.ofString "cpy313.urllib.robotparser") 194) (Value.ref 69)) ::
  (nat_lit 71, { cls := Value.type "tuple", data := Data.seq #[] }) ::
  (nat_lit 73, { cls := Value.type "tuple", data := Data.seq #[Value.str (Str.ofString "data") 267, Value.str (Str.ofString "t") 268] }) ::
  (nat_lit 74, { cls := Value.type "tuple", data := Data.seq #[] }) ::
  (nat_lit 76, { cls := Value.type "code", data := Data.fields #[Value.str (Str.ofString "_buffer") 264, Value.str (Str.ofString "_buffer") 265, Value.str (Str.ofString "/claim/cut.py") 266, Value.int 43 0, Value.int 1 0, Value.int 0 0, Value.int 0 0, Value.int 3 0, Value.ref 71, Value.bool true, Value.int 181 0, Value.ref 72, Value.none, Value.ref 73, Value.ref 74, Value.ref 75, Value.int 269 0, Value.int 43 0, Value.str (Str.ofString "/claim/cut.py") 270] }) ::
  (nat_lit 77, fnOb (topSt 5) "_buffer" Value.none Value.none (Value.str (Str.ofString "binascii") 262) (Value.ref 76)) ::
  (nat_lit 78, { cls := Value.type "tuple", data := Data.seq #[] }) ::
  (nat_lit 80, { cls := Value.type "tuple", data := Data.seq #[Value.str (Str.ofString "x") 275, Value.str (Str.ofString "t") 276] }) ::
  (nat_lit 81, { cls := Value.type "tuple", data := Data.seq #[] }) ::
  (nat_lit 83, { cls := Value.type "code", data := Data.fields #[Value.str (Str.ofString "_truth") 272, Value.str (Str.ofString "_truth") 273, Value.str (Str.ofString "/claim/cut.py") 274, Value.int 50 0, Value.int 1 0, Value.int 0 0, Value.int 0 0, Value.int 3 0, Value.ref 78, Value.bool true, Value.int 181 0, Value.ref 79, Value.none, Value.ref 80, Value.ref 81, Value.ref 82, Value.int 277 0, Value.int 50 0, Value.str (Str.ofString "/claim/cut.py") 278] }) ::
  (nat_lit 84, fnOb (topSt 6) "_truth" Value.none Value.none (Value.str (Str.ofString "binascii") 262) (Value.ref 83)) ::
  (nat_lit 85, { cls := Value.type "dict", data := Data.dict #[ent P "newline" 282 (Value.bool true)] 1 }) ::
  (nat_lit 86, { cls := Value.type "tuple", data := Data.seq #[] }) ::
  (nat_lit 88, { cls := Value.type "tuple", data := Data.seq #[Value.str (Str.ofString "data") 286, Value.str (Str.ofString "newline") 287, Value.str (Str.ofString "bin_data") 288, Value.str (Str.ofString "out") 289, Value.str (Str.ofString "leftbits") 290, Value.str (Str.ofString "leftchar") 291, Value.str (Str.ofString "b") 292] }) ::
  (nat_lit 89, { cls := Value.type "tuple", data := Data.seq #[] }) ::
  (nat_lit 91, { cls := Value.type "code", data := Data.fields #[Value.str (Str.ofString "b2a_base64") 283, Value.str (Str.ofString "b2a_base64") 284, Value.str (Str.ofString "/claim/cut.py") 285, Value.int 56 0, Value.int 1 0, Value.int 1 0, Value.int 1 0, Value.int 3 0, Value.ref 86, Value.bool true, Value.int 181 0, Value.ref 87, Value.none, Value.ref 88, Value.ref 89, Value.ref 90, Value.int 293 0, Value.int 56 0, Value.str (Str.ofString "/claim/cut.py") 294] }) ::
  (nat_lit 92, fnOb (topSt 8) "b2a_base64" Value.none (Value.ref 85) (Value.str (Str.ofString "binascii") 262) (Value.ref 91)) ::
  (nat_lit 93, { cls := Value.type "tuple", data := Data.seq #[Value.none] }) ::
  (nat_lit 94, { cls := Value.type "tuple", data := Data.seq #[] }) ::
  (nat_lit 96, { cls := Value.type "tuple", data := Data.seq #[Value.str (Str.ofString "s") 301, Value.str (Str.ofString "altchars") 302, Value.str (Str.ofString "encoded") 303] }) ::
  (nat_lit 97, { cls := Value.type "tuple", data := Data.seq #[] }) ::
  (nat_lit 99, { cls := Value.type "code", data := Data.fields #[Value.str (Str.ofString "b64encode") 298, Value.str (Str.ofString "b64encode") 299, Value.str (Str.ofString "/claim/cut.py") 300, Value.int 79 0, Value.int 2 0, Value.int 0 0, Value.int 0 0, Value.int 3 0, Value.ref 94, Value.bool true, Value.int 181 0, Value.ref 95, Value.none, Value.ref 96, Value.ref 97, Value.ref 98, Value.int 304 0, Value.int 79 0, Value.str (Str.ofString "/claim/cut.py") 305] }) ::
  (nat_lit 100, fnOb (topSt 10) "b64encode" (Value.ref 93) Value.none (Value.str (Str.ofString "cpy313.base64") 296) (Value.ref 99)) ::
  (nat_lit 101, { cls := Value.type "tuple", data := Data.seq #[] }) ::
  (nat_lit 103, { cls := Value.type "tuple", data := Data.seq #[Value.str (Str.ofString "mycmp") 312, Value.str (Str.ofString "K") 313] }) ::
  (nat_lit 104, { cls := Value.type "tuple", data := Data.seq #[Value.str (Str.ofString "mycmp") 314] }) ::
  (nat_lit 106, { cls := Value.type "code", data := Data.fields #[Value.str (Str.ofString "cmp_to_key") 309, Value.str (Str.ofString "cmp_to_key") 310, Value.str (Str.ofString "/claim/cut.py") 311, Value.int 86 0, Value.int 1 0, Value.int 0 0, Value.int 0 0, Value.int 3 0, Value.ref 101, Value.bool true, Value.int 181 0, Value.ref 102, Value.none, Value.ref 103, Value.ref 104, Value.ref 105, Value.int 315 0, Value.int 86 0, Value.str (Str.ofString "/claim/cut.py") 316] }) ::
  (nat_lit 107, fnOb (topSt 12) "cmp_to_key" Value.none Value.none (Value.str (Str.ofString "cpy313.functools") 307) (Value.ref 106)) ::
  (nat_lit 108, { cls := Value.type "object" }) ::
  (nat_lit 109, { cls := Value.type "tuple", data := Data.seq #[Value.ref 108] }) ::
  (nat_lit 110, { cls := Value.type "tuple", data := Data.seq #[] }) ::
  (nat_lit 112, { cls := Value.type "tuple", data := Data.seq #[Value.str (Str.ofString "function") 322, Value.str (Str.ofString "sequence") 323, Value.str (Str.ofString "initial") 324, Value.str (Str.ofString "it") 325, Value.str (Str.ofString "value") 326, Value.str (Str.ofString "element") 327] }) ::
  (nat_lit 113, { cls := Value.type "tuple", data := Data.seq #[] }) ::
  (nat_lit 115, { cls := Value.type "code", data := Data.fields #[Value.str (Str.ofString "reduce") 319, Value.str (Str.ofString "reduce") 320, Value.str (Str.ofString "/claim/cut.py") 321, Value.int 112 0, Value.int 3 0, Value.int 0 0, Value.int 0 0, Value.int 3 0, Value.ref 110, Value.bool true, Value.int 181 0, Value.ref 111, Value.none, Value.ref 112, Value.ref 113, Value.ref 114, Value.int 328 0, Value.int 112 0, Value.str (Str.ofString "/claim/cut.py") 329] }) ::
  (nat_lit 116, fnOb (topSt 14) "reduce" (Value.ref 109) Value.none (Value.str (Str.ofString "cpy313.functools") 307) (Value.ref 115)) ::
  (nat_lit 117, { cls := Value.type "tuple", data := Data.seq #[] }) ::
  (nat_lit 120, { cls := Value.type "code", data := Data.fields #[Value.str (Str.ofString "_law_drawn") 333, Value.str (Str.ofString "_law_drawn") 334, Value.str (Str.ofString "/claim/cut.py") 335, Value.int 125 0, Value.int 1 0, Value.int 0 0, Value.int 0 0, Value.int 3 0, Value.ref 117, Value.bool true, Value.int 181 0, Value.ref 118, Value.none, Value.none, Value.none, Value.ref 119, Value.int 336 0, Value.int 125 0, Value.str (Str.ofString "/claim/cut.py") 337] }) ::
  (nat_lit 121, fnOb (topSt 16) "_law_drawn" Value.none Value.none (Value.str (Str.ofString "law_ik0147_01") 331) (Value.ref 120)) ::
  (nat_lit 122, { cls := Value.type "tuple", data := Data.seq #[] }) ::
  (nat_lit 124, { cls := Value.type "tuple", data := Data.seq #[Value.str (Str.ofString "agents") 342, Value.str (Str.ofString "delay") 343, Value.str (Str.ofString "row") 344, Value.str (Str.ofString "record") 345] }) ::
  (nat_lit 125, { cls := Value.type "tuple", data := Data.seq #[] }) ::
  (nat_lit 127, { cls := Value.type "code", data := Data.fields #[Value.str (Str.ofString "_law_record") 339, Value.str (Str.ofString "_law_record") 340, Value.str (Str.ofString "/claim/cut.py") 341, Value.int 129 0, Value.int 3 0, Value.int 0 0, Value.int 0 0, Value.int 3 0, Value.ref 122, Value.bool true, Value.int 181 0, Value.ref 123, Value.none, Value.ref 124, Value.ref 125, Value.ref 126, Value.int 346 0, Value.int 129 0, Value.str (Str.ofString "/claim/cut.py") 347] }) ::
  (nat_lit 128, fnOb (topSt 17) "_law_record" Value.none Value.none (Value.str (Str.ofString "law_ik0147_01") 331) (Value.ref 127)) ::
  (nat_lit 129, { cls := Value.type "tuple", data := Data.seq #[] }) ::
  (nat_lit 131, { cls := Value.type "tuple", data := Data.seq #[Value.str (Str.ofString "one") 352, Value.str (Str.ofString "two") 353, Value.str (Str.ofString "first") 354, Value.str (Str.ofString "second") 355, Value.str (Str.ofString "told") 356] }) ::
  (nat_lit 132, { cls := Value.type "tuple", data := Data.seq #[Value.str (Str.ofString "signs") 357] }) ::
  (nat_lit 134, { cls := Value.type "code", data := Data.fields #[Value.str (Str.ofString "_law_turn") 349, Value.str (Str.ofString "_law_turn") 350, Value.str (Str.ofString "/claim/cut.py") 351, Value.int 135 0, Value.int 2 0, Value.int 0 0, Value.int 0 0, Value.int 3 0, Value.ref 129, Value.bool true, Value.int 181 0, Value.ref 130, Value.none, Value.ref 131, Value.ref 132, Value.ref 133, Value.int 358 0, Value.int 135 0, Value.str (Str.ofString "/claim/cut.py") 359] }) ::
  (nat_lit 135, fnOb (topSt 18) "_law_turn" Value.none Value.none (Value.str (Str.ofString "law_ik0147_01") 331) (Value.ref 134)) ::
  (nat_lit 136, { cls := Value.type "tuple", data := Data.seq #[] }) ::
  (nat_lit 139, { cls := Value.type "code", data := Data.fields #[Value.str (Str.ofString "_law_written") 361, Value.str (Str.ofString "_law_written") 362, Value.str (Str.ofString "/claim/cut.py") 363, Value.int 140 0, Value.int 1 0, Value.int 0 0, Value.int 0 0, Value.int 3 0, Value.ref 136, Value.bool true, Value.int 181 0, Value.ref 137, Value.none, Value.none, Value.none, Value.ref 138, Value.int 364 0, Value.int 140 0, Value.str (Str.ofString "/claim/cut.py") 365] }) ::
  (nat_lit 140, fnOb (topSt 19) "_law_written" Value.none Value.none (Value.str (Str.ofString "law_ik0147_01") 331) (Value.ref 139)) ::
  (nat_lit 141, { cls := Value.type "tuple", data := Data.seq #[] }) ::
  (nat_lit 144, { cls := Value.type "code", data := Data.fields #[Value.str (Str.ofString "_law_text") 367, Value.str (Str.ofString "_law_text") 368, Value.str (Str.ofString "/claim/cut.py") 369, Value.int 147 0, Value.int 1 0, Value.int 0 0, Value.int 0 0, Value.int 3 0, Value.ref 141, Value.bool true, Value.int 181 0, Value.ref 142, Value.none, Value.none, Value.none, Value.ref 143, Value.int 370 0, Value.int 147 0, Value.str (Str.ofString "/claim/cut.py") 371] }) ::
  (nat_lit 145, fnOb (topSt 20) "_law_text" Value.none Value.none (Value.str (Str.ofString "law_ik0147_01") 331) (Value.ref 144)) ::
  (nat_lit 146, { cls := Value.type "tuple", data := Data.seq #[] }) ::
  (nat_lit 149, { cls := Value.type "code", data := Data.fields #[Value.str (Str.ofString "law") 373, Value.str (Str.ofString "law") 374, Value.str (Str.ofString "/claim/cut.py") 375, Value.int 154 0, Value.int 1 0, Value.int 0 0, Value.int 0 0, Value.int 3 0, Value.ref 146, Value.bool true, Value.int 181 0, Value.ref 147, Value.none, Value.none, Value.none, Value.ref 148, Value.int 376 0, Value.int 154 0, Value.str (Str.ofString "/claim/cut.py") 377] }) ::
  (nat_lit 150, fnOb (topSt 21) "law" Value.none Value.none (Value.str (Str.ofString "law_ik0147_01") 331) (Value.ref 149)) :: []
noncomputable def hV : Program := view PySem.Challenge.pw_ik0147_01 [0, 2, 3, 5, 6, 7, 12, 13, 16, 17, 18, 19, 20, 21]
noncomputable abbrev hLs : List Str := [Str.ofString "b2a_base64", Str.ofString "b64encode", Str.ofString "_initial_missing", Str.ofString "reduce"]
noncomputable def hAs : List Addr := [2, 3, 15, 17, 18, 20, 21, 29, 31, 32, 34, 35, 36, 38, 39, 41, 42, 43, 45, 46, 48, 49, 50, 52, 53, 55, 56, 57, 58, 59, 60, 61, 64, 66, 67, 69, 70, 71, 73, 74, 76, 77, 78, 80, 81, 83, 84, 85, 86, 88, 89, 91, 92, 93, 94, 96, 97, 99, 100, 101, 103, 104, 106, 107, 108, 109, 110, 112, 113, 115, 116, 117, 120, 121, 122, 124, 125, 127, 128, 129, 131, 132, 134, 135, 136, 139, 140, 141, 144, 145, 146, 149, 150]
theorem hAs_ok : ∀ P, hAs = (hK P).map (·.1) := fun _ => by kernel_rfl
noncomputable abbrev hH : Hook := kmHook hK hAs hAs_ok [142, 130, 102, 147]
theorem bt {a b : Bool} (h1 : a = true) (h2 : b = true) : (a && b) = true := by rw [h1, h2]; rfl
theorem law_said : PySem.Challenge.rw_ik0147_01.wellSaid = true := by
  unfold OpenLaw.wellSaid OpenRow.wellSaid OpenRow.partSaid looksOpen
  repeat' (with_reducible refine bt ?_ ?_)
  all_goals decide +kernel
theorem law_left : LeftO PySem.Challenge.rw_ik0147_01.row.toRowW.prog hV hLs (fun s => xlAt hV [] s && recOk (RowW.records PySem.Challenge.rw_ik0147_01.row.toRowW) s) (Hook.obs hH) (Hook.val hH) 1790 := fun w => by kernel_rfl
end SHD
section SB1
open PySem PySem.W PyProof.Rows PySem.Calls
set_option Elab.async false
set_option maxRecDepth 100000
noncomputable abbrev PG : Program := PySem.Challenge.rw_ik0147_01.row.prog
noncomputable abbrev VW : Program := topProg
noncomputable abbrev LS : List Str := looseW hV hLs ++ (recsOf hV).map (·.name) ++ (litsOf hV).map (·.1) ++ (clssOf hV (looseW hV hLs)).map (·.name)
noncomputable abbrev Led := List (Addr × Obj)
/-- what stands apart from all of a ledger -/
noncomputable def Over (news tl : Led) : Prop := ∀ q ∈ news, ∀ p ∈ tl, q.1 ≠ p.1
/-- what the walk of a call may lean on, and what it must hand back; k is the room it takes -/
noncomputable def Ct (k : Nat) (w : World) (mean : ExcName → Option Value) (mg mb : Str → Option Value) (f : Value) (vs : List Value) (kw : List (Str × Value)) (pre : Led → Prop) (Out : Led → Value → Prop) : Prop :=
  ∀ (dp un : Nat) (gd : Option (List Code)) (cn : Str) (cs : Scope) (a : Addr) (ccd : Value) (cl : List (Str × Addr)) (outer : List Env) (A₀ : Around) (base h₀ : Heap) (L : Addr) (m : Str → Option Value) (news : Led) (s : Shared)
    (Q E : Value → Shared → Prop),
    Below A₀ base outer h₀ → Fr h₀ L s.heap m → (hK w.params).In h₀ → News h₀ L s.heap news → Top VW LS mean mg mb h₀ → cs.kind = .function → dp + k < 1000 → un + 8 * k < 9900 → pre news →
    (∀ r tl h' tk', Fr h₀ L h' m → News h₀ L h' (news ++ tl) → Over news tl → Out (news ++ tl) r → Q r { s with heap := h', toks := tk' }) →
    wpAny (model PG w) (ktrTop dp un gd cn cs L a ccd cl outer) (call f vs kw) Q E s
theorem ct_use0 {k : Nat} {w : World} {mean : ExcName → Option Value} {mg mb : Str → Option Value} {f : Value} {vs : List Value} {kw : List (Str × Value)} {pre : Led → Prop} {Out : Led → Value → Prop} (C : Ct k w mean mg mb f vs kw pre Out)
    {dp un : Nat} {gd : Option (List Code)} {cn : Str} {cs : Scope} {a : Addr} {ccd : Value} {cl : List (Str × Addr)} {outer : List Env} {A₀ : Around} {base h₀ : Heap} {L : Addr} {m : Str → Option Value} {news : Led} {s : Shared}
    {Q E : Value → Shared → Prop} (B : Below A₀ base outer h₀) (F : Fr h₀ L s.heap m) (X : (hK w.params).In h₀) (N : News h₀ L s.heap news) (T : Top VW LS mean mg mb h₀) (hk : cs.kind = .function) (hd : dp + k < 1000) (hu : un + 8 * k < 9900) (hp : pre news)
    (ret : ∀ r tl h' tk', Fr h₀ L h' m → News h₀ L h' news → Out (news ++ tl) r → Q r { s with heap := h', toks := tk' }) :
    wpAny (model PG w) (ktrTop dp un gd cn cs L a ccd cl outer) (call f vs kw) Q E s :=
  C _ _ _ _ _ _ _ _ _ _ _ _ _ _ _ _ _ _ B F X N T hk hd hu hp fun r tl h' tk' F' N' _ o => ret r tl h' tk' F' (fun p hp => N' p (List.mem_append.mpr (.inl hp))) o
theorem ct_use {k : Nat} {w : World} {mean : ExcName → Option Value} {mg mb : Str → Option Value} {f : Value} {vs : List Value} {kw : List (Str × Value)} {pre : Led → Prop} {Out : Led → Value → Prop} (C : Ct k w mean mg mb f vs kw pre Out)
    {dp un : Nat} {gd : Option (List Code)} {cn : Str} {cs : Scope} {a : Addr} {ccd : Value} {cl : List (Str × Addr)} {outer : List Env} {A₀ : Around} {base h₀ : Heap} {L : Addr} {m : Str → Option Value} {news : Led} {s : Shared}
    {Q E : Value → Shared → Prop} (B : Below A₀ base outer h₀) (F : Fr h₀ L s.heap m) (X : (hK w.params).In h₀) (N : News h₀ L s.heap news) (T : Top VW LS mean mg mb h₀) (hk : cs.kind = .function) (hd : dp + k < 1000) (hu : un + 8 * k < 9900) (hp : pre news)
    (ret : ∀ r tl h' tk', Fr h₀ L h' m → News h₀ L h' (news ++ tl) → Over news tl → Out (news ++ tl) r → Q r { s with heap := h', toks := tk' }) :
    wpAny (model PG w) (ktrTop dp un gd cn cs L a ccd cl outer) (call f vs kw) Q E s :=
  C _ _ _ _ _ _ _ _ _ _ _ _ _ _ _ _ _ _ B F X N T hk hd hu hp ret
theorem News.sub0 {h₀ h' : Heap} {L : Addr} {l news : Led} (N : News h₀ L h' l) (hs : ∀ p ∈ news, p ∈ l) : News h₀ L h' (news ++ []) := fun p hp => N p (hs p (by simpa using hp))
theorem News.swap {h₀ h' : Heap} {L : Addr} {tl news : Led} (N : News h₀ L h' (tl ++ news)) : News h₀ L h' (news ++ tl) := fun p hp => N p (List.mem_append.mpr (List.mem_append.mp hp).symm)
/-- a ledger's ends, written out -/
noncomputable def AllGe (d : Addr) : Led → Prop
  | [] => True
  | p :: r => @LE.le Nat _ d p.1 ∧ AllGe d r
theorem AllGe.at {d : Addr} : ∀ {l : Led}, AllGe d l → ∀ p ∈ l, @LE.le Nat _ d p.1
  | [], _, _, h => nomatch h
  | _ :: _, x, p, h => by
    rcases List.mem_cons.mp h with rfl | h
    · exact x.1
    · exact AllGe.at x.2 p h
theorem Over.of {d : Addr} {news tl : Led} (h : ∀ p ∈ news, p.1 < d) (hl : AllGe d tl) : Over news tl := fun q hq p hp => Nat.ne_of_lt (Nat.lt_of_lt_of_le (h q hq) (hl.at p hp))
theorem Over.cons {news tl : Led} {p : Addr × Obj} (h : ∀ q ∈ news, q.1 ≠ p.1) (ht : Over news tl) : Over news (p :: tl) := fun q hq r hr => by
  rcases List.mem_cons.mp hr with rfl | hr
  · exact h q hq
  · exact ht q hq r hr
theorem all_ne_off1 {D : Addr} : ∀ {news : Led}, LCg.Off1 D news → ∀ p ∈ news, p.1 ≠ D
  | [], _, _, h => nomatch h
  | _ :: _, x, p, h => by
    rcases List.mem_cons.mp h with rfl | h
    · exact x.1
    · exact all_ne_off1 x.2 p h
theorem all_ne_lt {news : Led} {D : Addr} (h : ∀ p ∈ news, p.1 < D) : ∀ p ∈ news, p.1 ≠ D := fun p hp => Nat.ne_of_lt (h p hp)
theorem all_ne_lt1 {news : Led} {D k : Nat} (h : ∀ p ∈ news, p.1 < D) : ∀ p ∈ news, p.1 ≠ D + k := fun p hp => Nat.ne_of_lt (Nat.lt_of_lt_of_le (h p hp) (Nat.le_add_right _ _))
theorem all_ne_le {news : Led} {d D : Nat} (h : ∀ p ∈ news, p.1 < d) (hd : d ≤ D) : ∀ p ∈ news, p.1 ≠ D := fun p hp => Nat.ne_of_lt (Nat.lt_of_lt_of_le (h p hp) hd)
theorem all_app {a b : Led} {D : Addr} (h : ∀ p ∈ a, p.1 ≠ D) (h2 : ∀ p ∈ b, p.1 ≠ D) : ∀ p ∈ a ++ b, p.1 ≠ D := fun p hp => (List.mem_append.mp hp).elim (h p) (h2 p)
theorem Over.nil {news : Led} : Over news [] := fun _ _ _ h => nomatch h
theorem room_of {dp a c n : Nat} (h : dp + a < n) (e : c ≤ a) : dp + c < n := Nat.lt_of_le_of_lt (Nat.add_le_add_left e dp) h
theorem nm_is {m : Str → Option Value} {x : Str} {v : Value} (_ : m x = some v) {M : Model} {A : Around} {p : Pos} {env : Env} {Q E : Value → Shared → Prop} {s : Shared} (h : wpAny M A (eval (.Name x p) env) Q E s) : wpAny M A (eval (.Name x p) env) Q E s := h
/-- a call at which a walk halts: with `hstop` in sight the walk hands the goal back -/
noncomputable def Halted (P : Prop) : Prop := P
theorem unhalt {P : Prop} (h : P) : Halted P := h
theorem halted {P : Prop} (_ : True) (h : Halted P) : P := h
end SB1
section SD1
open PySem PySem.W PySem.W.X PyProof.Rows PySem.Calls
set_option Elab.async false
set_option maxRecDepth 100000
set_option maxHeartbeats 400000
theorem slot_rstrip : Slot "bytes" "rstrip" "bytes.rstrip" :=
  .of (owner := "bytes") (n := "rstrip") (by rw [typeLookup_type, builtinLookup_eq_fast]; kernel_rfl) (by decide +kernel) (by decide +kernel) (by decide +kernel)
    (by first | exact .inl (by decide +kernel) | exact .inr (by decide +kernel)) (by rw [isSubtype_type]; kernel_rfl)
theorem type_rstrip : typeOf (.builtin "bytes.rstrip") = pure (.type "method_descriptor") := by show builtinType _ = _; rw [builtinType_eq_fast]; kernel_rfl
theorem entry_rstrip : entryFor table "bytes.rstrip" = some Builtin.«bytes.rstrip» := entryFor_of_tree (by kernel_rfl)
theorem args_rstrip_2 (a b : Value) : argsOk "bytes.rstrip" ⟨[a, b], []⟩ := by
  unfold argsOk; rw [signature?_of (id := "bytes.rstrip") (n := ['p', 'i', 'r', 't', 's', 'r']) (o := ['s', 'e', 't', 'y', 'b']) (by kernel_rfl) FB.owner_bytes]; kernel_rfl
theorem args_decode_2 (a b : Value) : argsOk "bytes.decode" ⟨[a, b], []⟩ := by
  unfold argsOk; rw [signature?_of (id := "bytes.decode") (n := ['e', 'd', 'o', 'c', 'e', 'd']) (o := ['s', 'e', 't', 'y', 'b']) (by kernel_rfl) FB.owner_bytes]; kernel_rfl
noncomputable def kept (b : Array UInt8) : List UInt8 := (b.toList.reverse.dropWhile (#[(61 : UInt8)].contains)).reverse
theorem rstrip_eq (b : Array UInt8) (t u : Tok) : Builtin.«bytes.rstrip» ⟨[.bytes b t, .bytes #[61] u], []⟩ = (if (kept b).length == b.size then rule "bytes.rstrip.unchanged" >>= fun _ => ret (.bytes b t) else mkBytes (kept b).toArray >>= fun v => ret v) := by
  kernel_rfl
theorem meets_rstrip (b : Array UInt8) (t u : Tok) : Meets (Builtin.«bytes.rstrip» ⟨[.bytes b t, .bytes #[61] u], []⟩) (fun _ R s => b.size ≤ sizeLine ∧ ∀ t' k, R (.ok (.ret (.bytes (kept b).toArray t'))) { s with toks := k }) := by
  refine .of_wp fun prog w A R s hS => ?_
  obtain ⟨hsz, h⟩ := hS
  rw [rstrip_eq]
  by_cases e : (kept b).length == b.size
  · rw [if_pos e]
    refine wpAny_bind (wpAny_rule ?_)
    have e2 : kept b = b.toList := by
      have e3 : (kept b).length = b.size := by simpa using e
      unfold kept at e3 ⊢
      have hs := List.dropWhile_suffix (l := b.toList.reverse) (#[(61 : UInt8)].contains)
      have := hs.eq_of_length (by rw [List.length_reverse] at e3; rw [e3]; simp)
      rw [this, List.reverse_reverse]
    have h9 := h t s.toks
    rw [e2, Array.toArray_toList] at h9
    exact wpAny_pure ⟨_, rfl, h9⟩
  · rw [if_neg e]
    have hl : (kept b).length ≤ b.size := by
      unfold kept
      rw [List.length_reverse]
      exact Nat.le_trans (List.dropWhile_suffix (l := b.toList.reverse) _).length_le (by simp)
    unfold mkBytes
    rw [if_neg (by rw [List.size_toArray]; omega)]
    refine wpAny_bind (wpAny_bind (wpAny_fresh ?_))
    exact wpAny_pure (wpAny_pure ⟨_, rfl, h _ _⟩)
theorem dec_eq (c : UInt8) (cs : List UInt8) (t u : Tok) : Builtin.«bytes.decode» ⟨[.bytes (c :: cs).toArray t, .str (Str.ofString "ascii") u], []⟩ = (mkStr (PySem.Str.ofString "utf-8") >>= fun _ => mkStr (PySem.Str.ofString "ascii") >>= fun e => mkStr (PySem.Str.ofString "bytes.decode") >>= fun d =>
    call (.builtin "_codecs.decode.text") [.bytes (c :: cs).toArray t, e, .none, d] >>= fun v => ret v) := by
  kernel_rfl
theorem road_eq (b : Array UInt8) {id : String} : Builtin._codecs.decodeRoad id b (PySem.Str.ofString "ascii") none [] = (Builtin._codecs.runDecoder id Builtin._codecs.asciiDecoder none true b 0 [] >>= fun r => mkStr ⟨r.1⟩) := by kernel_rfl
/-- the ascii decoder on bytes that are all below 128 -/
noncomputable def decB : Builtin._codecs.Decoder := { Builtin._codecs.asciiDecoder with find := fun _ b p => .char (b.getD p 0).toNat (p + 1) }
theorem find_ascii {b : Array UInt8} (h : ∀ p, (b.getD p 0).toNat < 128) (p : Nat) : Builtin._codecs.asciiDecoder.find true b p = decB.find true b p := if_pos (h p)
theorem run_decB {id : String} {b : Array UInt8} (h : ∀ p, (b.getD p 0).toNat < 128) : Builtin._codecs.runDecoder id Builtin._codecs.asciiDecoder none true b 0 [] = Builtin._codecs.runDecoder id decB none true b 0 [] := by
  unfold Builtin._codecs.runDecoder
  simp only [find_ascii h]
  rfl
theorem low_all {l : List UInt8} (h : ∀ c ∈ l, c.toNat < 128) (p : Nat) : (l.toArray.getD p 0).toNat < 128 := by
  rw [Array.getD_eq_getD_getElem?, List.getElem?_toArray]
  cases e : l[p]? with
  | none => decide
  | some c => exact h c (List.mem_of_getElem? e)
theorem run_ascii (id : String) (l : List UInt8) (h : ∀ c ∈ l, c.toNat < 128) (hn : l.length ≤ 6) : Builtin._codecs.runDecoder id Builtin._codecs.asciiDecoder none true l.toArray 0 [] = pure ((l.map (·.toNat)).toArray, l.length) := by
  rw [run_decB (low_all h)]
  clear h
  rcases l with _ | ⟨a, _ | ⟨b, _ | ⟨c, _ | ⟨d, _ | ⟨e, _ | ⟨f, _ | ⟨g, l⟩⟩⟩⟩⟩⟩⟩
  · kernel_rfl
  · kernel_rfl
  · kernel_rfl
  · kernel_rfl
  · kernel_rfl
  · kernel_rfl
  · kernel_rfl
  · simp only [List.length_cons] at hn; omega
theorem held_eq {b : Array UInt8} {t : Tok} {id : String} : Builtin._codecs.dataHeld id (.bytes b t) = pure [] := KBd.held_eq
theorem meets_text {l : List UInt8} {t : Tok} {t1 t2 : Tok} {d : PySem.Str} (h : ∀ c ∈ l, c.toNat < 128) (hn : l.length ≤ 6) :
    Meets (Builtin.«_codecs.decode.text» ⟨[.bytes l.toArray t, .str (PySem.Str.ofString "ascii") t1, .none, .str d t2], []⟩) (fun _ R s => R (.ok (.ret (.str ⟨(l.map (·.toNat)).toArray⟩ s.toks))) { s with toks := s.toks + 1 }) := by
  refine .of_wp fun prog w A R s h9 => ?_
  show wpAny _ _ (Builtin.Bytes.bytesLike _ (.bytes l.toArray t) >>= fun r => _) _ _ s
  refine wpAny_bind (wpAny_of_eq KBd.like_eq ?_)
  refine wpAny_bind (wpAny_of_eq KBd.held_eq ?_)
  show wpAny _ _ (Builtin._codecs.decodeRoad _ l.toArray (PySem.Str.ofString "ascii") none [] >>= fun v => _) _ _ s
  rw [road_eq, run_ascii _ l h hn]
  refine wpAny_bind (wpAny_bind (wpAny_pure ?_))
  exact wpAny_mkStr (wpAny_pure ⟨_, rfl, h9⟩) (by show (l.map (·.toNat)).toArray.size ≤ sizeLine; rw [sizeLine_eq, List.size_toArray, List.length_map]; omega)
theorem meets_decode {c : UInt8} {cs : List UInt8} {t u : Tok} (h : ∀ x ∈ c :: cs, x.toNat < 128) (hn : (c :: cs).length ≤ 6) :
    Meets (Builtin.«bytes.decode» ⟨[.bytes (c :: cs).toArray t, .str (PySem.Str.ofString "ascii") u], []⟩) (fun _ R s => ∀ t' k, R (.ok (.ret (.str ⟨((c :: cs).map (·.toNat)).toArray⟩ t'))) { s with toks := k }) := by
  refine .of_wp fun prog w A R s h9 => ?_
  rw [dec_eq]
  refine wpAny_bind (wpAny_mkStr ?_ (by decide))
  refine wpAny_bind (wpAny_mkStr ?_ (by decide))
  refine wpAny_bind (wpAny_mkStr ?_ (by decide))
  exact wpAny_bind (call_function_meets KBd.kind_text KBd.plain_text KBd.entry_text (KBd.args_text _ _ _ _) (meets_text h hn) (wpAny_pure ⟨_, rfl, h9 _ _⟩))
section
variable {prog : Program} {w : World} {A : Around} {E : Value → Shared → Prop} {s : Shared} {t u : Tok}
/-- rstrip(b'=') -/
theorem rstrip_bytes {b : Array UInt8} {Q : Value → Shared → Prop} (hn : b.size ≤ 1000) (h : ∀ t' k, Q (.bytes (kept b).toArray t') { s with toks := k }) : wpAny (model prog w) A (call (.builtin "bytes.rstrip") [.bytes b t, .bytes #[61] u]) Q E s :=
  call_meets slot_rstrip (typeIs_bytes _ _ _) entry_rstrip (args_rstrip_2 _ _) (meets_rstrip b t u) ⟨by rw [sizeLine_eq]; omega, h⟩
/-- decode('ascii') of one to six signs -/
theorem decode_bytes {l : List UInt8} {Q : Value → Shared → Prop} (hl : ∀ x ∈ l, x.toNat < 128) (h1 : 1 ≤ l.length) (hn : l.length ≤ 6) (h : ∀ t' k, Q (.str ⟨(l.map (·.toNat)).toArray⟩ t') { s with toks := k }) :
    wpAny (model prog w) A (call (.builtin "bytes.decode") [.bytes l.toArray t, .str (PySem.Str.ofString "ascii") u]) Q E s := by
  rcases l with _ | ⟨c, cs⟩
  · simp at h1
  · exact call_meets FB.slot_bytes_decode (typeIs_bytes _ _ _) FB.entry_bytes_decode (args_decode_2 _ _) (meets_decode hl hn) h
theorem method_rstrip {M : Model} {b : Array UInt8} {pl : Sem Bool} {Q : Value × List Value → Shared → Prop} (h : Q (.builtin "bytes.rstrip", [.bytes b t]) s) : wpAny M A (getMethod (.bytes b t) "rstrip" pl) Q E s := by
  with_reducible exact KBd.method_of (.bytes b t) (typeIs_bytes _ _ _) slot_rstrip type_rstrip KBd.noRef h
end
end SD1
section SL1
open PySem PySem.W PyProof.Rows PySem.Calls
set_option Elab.async false
set_option maxRecDepth 100000
set_option maxHeartbeats 3200000
/-- the texts met first, one after the other -/
noncomputable def met (val : Nat → Str) : Nat → List Str
  | 0 => []
  | i + 1 => if (met val i).any (· == val i) then met val i else met val i ++ [val i]
theorem met_succ (val : Nat → Str) (i : Nat) : met val (i + 1) = if (met val i).any (· == val i) then met val i else met val i ++ [val i] := rfl
theorem met_len (val : Nat → Str) : ∀ i, (met val i).length ≤ i
  | 0 => Nat.le_refl _
  | i + 1 => by
    have := met_len val i
    rw [met_succ]; split
    · omega
    · simp; omega
theorem met_step_any (val : Nat → Str) (i : Nat) (k : Str) : (met val (i + 1)).any (· == k) = ((met val i).any (· == k) || decide (k = val i)) := by
  rw [met_succ]
  by_cases h : (met val i).any (· == val i) = true
  · rw [if_pos h]
    by_cases e : k = val i
    · subst e; rw [h]; simp
    · simp [e]
  · rw [if_neg h, List.any_append]
    by_cases e : k = val i
    · subst e; simp
    · have e2 : ¬ val i = k := fun q => e q.symm
      simp [e, e2]
theorem met_any (val : Nat → Str) : ∀ (i : Nat) (k : Str), (met val i).any (· == k) = (List.range i).any (fun j => val j == k)
  | 0, _ => rfl
  | i + 1, k => by
    rw [met_step_any, met_any val i k, List.range_succ, List.any_append]
    congr 1
    by_cases h : k = val i
    · subst h; simp
    · have e2 : ¬ val i = k := fun q => h q.symm
      simp [h, e2]
theorem met_step_len (val : Nat → Str) (i : Nat) : (met val (i + 1)).length = if (met val i).any (· == val i) then (met val i).length else (met val i).length + 1 := by
  rw [met_succ]; split <;> simp

section
variable {prog : Program} {w : World} {A : Around} {R : Result → Shared → Prop} {I : Addr} {fp wr : List Addr} {G : Array GenState → Array GenState → Prop} {n : Nat} {P : Nat → Value → Prop} {St : Nat → Shared → Prop}
theorem code_setloop (W : WalksS prog w A.in1 I fp wr G n P St) (S : Addr) (hSf : S ∉ fp)
    (val : Nat → Str) (hval : ∀ i v, P i v → ∃ t, v = .str (val i) t) (hb : n + 1 < scanBound) :
    ∀ (k i : Nat) (s : Shared), n - i = k → i ≤ n → St i s →
      s.heap.SetOf (strKind prog w) S (fun k' => (met val i).any (· == k')) (met val i).length →
      (∀ s', Moved (S :: wr) G s s' → s'.heap.SetOf (strKind prog w) S (fun k' => (met val n).any (· == k')) (met val n).length → R (.ok (.ret .none)) s') →
      codeAny (model prog w) A (.builtin "set.update.loop" ⟨[.ref S, .ref I], []⟩) R s := by
  have hSw : S ∉ wr := fun h => hSf (W.sub _ h)
  have hsub : ∀ b ∈ wr, b ∈ S :: wr := fun b hb => List.mem_cons_of_mem _ hb
  intro k
  induction k with
  | zero =>
    intro i s hk hi hst hS hR
    have hin : i = n := by omega
    subst hin
    refine codeAny_builtin F.entry_set_update_loop ?_
    rw [Around.under_plainId F.plain_set_update_loop _]
    show wpAny _ A.in1 (pyNext (.ref I) >>= _) _ _ s
    refine wpAny_bind (W.done s _ _ hst fun s' hm => ?_)
    show wpAny _ A.in1 (ret Value.none) _ _ s'
    exact wpAny_pure (hR s' (hm.mono hsub) (by
      obtain ⟨o, es, ep, t, ho, rest⟩ := hS
      exact ⟨o, es, ep, t, hm.heap S _ hSw ho, rest⟩))
  | succ k ih =>
    intro i s hk hi hst hS hR
    have hlt : i < n := by omega
    refine codeAny_builtin F.entry_set_update_loop ?_
    rw [Around.under_plainId F.plain_set_update_loop _]
    show wpAny _ A.in1 (pyNext (.ref I) >>= _) _ _ s
    refine wpAny_bind (W.item i s _ _ hlt hst fun v s' hP hst' hm => ?_)
    obtain ⟨t, rfl⟩ := hval i v hP
    have hS' : s'.heap.SetOf (strKind prog w) S (fun k' => (met val i).any (· == k')) (met val i).length := by
      obtain ⟨o, es, ep, tb, ho, rest⟩ := hS
      exact ⟨o, es, ep, tb, hm.heap S _ hSw ho, rest⟩
    show wpAny _ A.in1 (holding [Value.str (val i) t] (setAdd S (.str (val i) t)) >>= _) _ _ s'
    refine wpAny_bind (wpAny_holding ?_)
    unfold setAdd
    refine wpAny_holding ?_
    refine wpAny_bind ((strKind prog w).pyHash (k := val i) (strKind_is _ _ _ _) ?_)
    have hroom : (met val i).length + 1 < scanBound := by have := met_len val i; omega
    refine wpAny_setAddHashed_of (knd := strKind prog w) (s := { s' with toks := s'.toks + 1 }) (strKind_is _ _ _ _) rfl hS' hroom fun h' hsb hS2 => ?_
    have hSi : h'.SetOf (strKind prog w) S (fun k' => (met val (i + 1)).any (· == k')) (met val (i + 1)).length :=
      SetOf_congr hS2 (fun k' => by rw [met_step_any]) (by rw [met_step_len])
    refine wpAny_pure ⟨plainId_quiet F.plain_set_update_loop _, ih (i + 1) _ (by omega) hlt (W.frame _ s' _ _ hst' (Nat.le_succ _) fun b hb o e => ?_) hSi fun s'' hm'' hS'' => ?_⟩
    · rw [hsb.2 b (fun h : b = S => hSf (by rw [← h]; exact hb))]; exact e
    · refine hR s'' (Moved.trans W.gtrans ((hm.mono hsub).then_heap (Nat.le_succ _) fun b o hb e => ?_) hm'') hS''
      rw [hsb.2 b (fun h : b = S => hb (by rw [h]; exact List.mem_cons_self))]; exact e
end

section
variable {prog : Program} {w : World} {A : Around} {E : Value → Shared → Prop} {s : Shared}
theorem strs_at {vs : List Value} {ss : List Str} (h : StrsAre vs ss) (i : Nat) (v : Value) (e : vs[i]? = some v) : ∃ t, v = .str (ss.getD i default) t := by
  obtain ⟨y, t, rfl, hy⟩ := StrsAre.item h i v e
  exact ⟨t, by rw [List.getD_eq_getElem?_getD, hy]; rfl⟩

theorem set_of_strs {l : Addr} {items : Array Value} {ss : List Str} {Q : Value → Shared → Prop}
    (hh : A.handled = none) (hl : s.heap.IsList l items) (hi : StrsAre items.toList ss) (hb : items.size + 1 < scanBound)
    (h : ∀ (h' : Heap) (tk : Nat), h'.SetOf (strKind prog w) s.heap.objs.size (fun k' => (met (fun i => ss.getD i default) items.size).any (· == k')) (met (fun i => ss.getD i default) items.size).length →
      (∀ b o, b < s.heap.objs.size → s.heap.get? b = some o → h'.get? b = some o) → Q (.ref s.heap.objs.size) { s with heap := h', toks := tk }) :
    wpAny (model prog w) A (call (.type "set") [.ref l]) Q E s := by
  obtain ⟨c, tl, hmro⟩ := F.called_set.mro
  have hmade := F.called_set.made
  have hsub := F.called_set.sub
  refine wpAny_call (codeAny_of_tree ?_)
  show wpAny _ _ (callAny (.type "set") _) _ _ _
  refine wpAny_pure ⟨Code.quiet_builtin _ (by decide +kernel), codeAny_builtin F.entry_type_call ?_⟩
  rw [Around.under_plain (weight_type_call_type "set" [.ref l] []) rfl]
  have h1 := F.called_set.notType
  have h2 := F.called_set.canCreate
  have hct := F.typeCall_set_1 (.ref l)
  repeat (any_goals (first | assumption | wp_step))
  refine codeAny_mono (code_set_new_1 (.ref l) (E := E) (Q₁ := fun obj s₁ => ∃ led : Bool, obj = .ref s.heap.objs.size ∧ s₁ = { s with heap := s.heap.push { cls := .type "set", dict := none, data := .set #[] 0 (.fresh 0 0 led) } }) fun led => ⟨led, rfl, rfl⟩) fun r s₁ hr => ?_
  cases r with
  | error e => exact hr
  | ok fl =>
    cases fl with
    | ret obj =>
      obtain ⟨led, rfl, rfl⟩ := hr
      have hS : (s.heap.push { cls := .type "set", dict := none, data := .set #[] 0 (.fresh 0 0 led) }).get? s.heap.objs.size = some { cls := .type "set", dict := none, data := .set #[] 0 (.fresh 0 0 led) } := Heap.get?_push_size _ rfl
      have hT : Shared.TypeIs { s with heap := s.heap.push { cls := .type "set", dict := none, data := .set #[] 0 (.fresh 0 0 led) } } (.ref s.heap.objs.size) "set" := ⟨_, hS, rfl⟩
      have hli := F.called_set.init.lookup
      have hbi := F.called_set.init.bind (.ref s.heap.objs.size)
      repeat (any_goals (first | assumption | wp_step))
      refine codeAny_mono (codeAny_call_builtin (R := wants (fun r s₂ => r = .none ∧ ∃ h' tk, s₂ = { s with heap := h', toks := tk } ∧
          h'.SetOf (strKind prog w) s.heap.objs.size (fun k' => (met (fun i => ss.getD i default) items.size).any (· == k')) (met (fun i => ss.getD i default) items.size).length ∧
          (∀ b o, b < s.heap.objs.size → s.heap.get? b = some o → h'.get? b = some o)) E) F.called_set.init.plain F.entry_set_init (check_set_init_1 hT ?_)) fun r₂ s₂ hr₂ => ?_
      · obtain ⟨ol, hol, hcl, nl, hdl⟩ := hl
        obtain ⟨ocls, odict, odata, oslots⟩ := ol
        simp only at hcl hdl
        subst hcl; subst hdl
        have hol' : (s.heap.push { cls := .type "set", dict := none, data := .set #[] 0 (.fresh 0 0 led) }).get? l = some { cls := .type "list", dict := odict, data := .seq items nl, slots := oslots } := Heap.get?_push_of_some _ hol
        have hsls := F.sub_list_set
        have hslf := F.sub_list_frozenset
        have hne : (Value.type "list" == Value.type "dict") = false := by decide
        have hl1 : (s.heap.push { cls := .type "set", dict := none, data := .set #[] 0 (.fresh 0 0 led) }).IsList l items := ⟨_, hol', rfl, nl, rfl⟩
        unfold Builtin.«set.__init__» noKeywords Builtin.Frozenset.updateFrom
        generalize hPI : pyIter = PI
        wp_walk
        subst hPI
        refine wpAny_pyIter_list hl1 ?_
        refine wpAny_bind (wpAny_runValue ?_)
        have hlS : l < s.heap.objs.size := Heap.lt_size hol
        have hh3 : A.in1.in1.in1.handled = none := by simp [hh]
        have hneI : l ≠ (s.heap.push { cls := .type "set", dict := none, data := .set #[] 0 (.fresh 0 0 led) }).objs.size := by
          rw [Heap.size_push]; exact Nat.ne_of_lt (Nat.lt_succ_of_lt hlS)
        have hSf : s.heap.objs.size ∉ [(s.heap.push { cls := .type "set", dict := none, data := .set #[] 0 (.fresh 0 0 led) }).objs.size, l] := by
          rw [Heap.size_push]; simp only [List.mem_cons, List.not_mem_nil, or_false, not_or]
          exact ⟨Nat.ne_of_lt (Nat.lt_succ_self _), Nat.ne_of_gt hlS⟩
        have hval : ∀ (i : Nat) (v : Value), items[i]? = some v → ∃ t, v = .str ((fun i => ss.getD i default) i) t := fun i v hv =>
          strs_at hi i v (by rw [Array.getElem?_toList]; exact hv)
        refine code_setloop ((Walks.list hh3 _ l hneI items).toS) s.heap.objs.size
          hSf (fun i => ss.getD i default) hval hb (items.size - 0) 0 _ (by omega) (Nat.zero_le _)
          ⟨⟨_, Heap.get?_push_size _ rfl, rfl, rfl⟩, (hl1.push _)⟩ ?hS0 ?hR
        case hS0 =>
          have hget : ((s.heap.push { cls := .type "set", dict := none, data := .set #[] 0 (.fresh 0 0 led) }).push { cls := .type "list_iterator", data := .fields #[.ref l, .int 0 0] }).get? s.heap.objs.size
              = some { cls := .type "set", dict := none, data := .set #[] 0 (.fresh 0 0 led) } := Heap.get?_push_of_some _ hS
          exact SetOf_congr ((setObjOf_fresh (knd := strKind prog w) led).setOf hget (by unfold scanBound; omega)) (fun _ => rfl) rfl
        case hR =>
          intro s' hm hS'
          obtain ⟨h', g', d', tk', os'⟩ := s'
          have eg : g' = s.gens := hm.gens
          have ed : d' = s.drawn := hm.drawn
          have eo : os' = s.os := hm.os
          subst eg; subst ed; subst eo
          show wpAny _ _ _ _ _ _
          refine wpAny_pure ?_
          show wpAny _ _ (ret Value.none) _ _ _
          refine wpAny_pure ⟨rfl, h', tk', rfl, hS', fun b o hb e => ?_⟩
          have hb1 : b ≠ s.heap.objs.size := Nat.ne_of_lt hb
          have hb2 : b ≠ (s.heap.push { cls := .type "set", dict := none, data := .set #[] 0 (.fresh 0 0 led) }).objs.size := by
            rw [Heap.size_push]; exact Nat.ne_of_lt (Nat.lt_succ_of_lt hb)
          exact hm.heap b o (by simp only [List.mem_cons, List.not_mem_nil, or_false, not_or]; exact ⟨hb1, hb2⟩) (Heap.get?_push_of_some _ (Heap.get?_push_of_some _ e))
      · cases r₂ with
        | error e => exact hr₂
        | ok fl₂ =>
          cases fl₂ with
          | ret r =>
            obtain ⟨rfl, h', tk, rfl, hS', hk'⟩ := hr₂
            repeat (any_goals (first | assumption | wp_step))
            exact h _ _ hS' hk'
          | _ => exact hr₂.elim
    | _ => exact hr.elim
end
end SL1
section SL2
open PySem PySem.W PySem.W.X PyProof.Rows PySem.Calls
set_option Elab.async false
set_option maxRecDepth 100000
set_option maxHeartbeats 0
/-- a caller of which nothing is known but room -/
noncomputable abbrev AZ : Around := { handled := none, depth := 900, frames := none, guards := none, units := 9800 }
theorem wk {α : Type} {M : Model} {A A' : Around} {t : Sem α} {Q : α → Shared → Prop} {E : Value → Shared → Prop} {s : Shared} (h : wpAny M A' t Q E s) (hh : A.handled = A'.handled) (hd : A.depth ≤ A'.depth) (hf : A'.frames = none)
    (hg : A'.guards = none) (hu : A.units ≤ A'.units) : wpAny M A t Q E s := fun Γ p hΓ =>
  h Γ p ⟨hh ▸ hΓ.1, Nat.le_trans hΓ.2.1 hd, (fun l e => by rw [hf] at e; cases e), (fun l e => by rw [hg] at e; cases e), Nat.le_trans hΓ.2.2.2.2 hu⟩
/-- room enough for what X runs -/
noncomputable def Room (A : Around) : Prop := A.handled = none ∧ A.depth ≤ 900 ∧ A.units ≤ 9800
theorem wkz {α : Type} {M : Model} {A : Around} {t : Sem α} {Q : α → Shared → Prop} {E : Value → Shared → Prop} {s : Shared} (r : Room A) (h : wpAny M AZ t Q (fun _ _ => False) s) : wpAny M A t Q E s :=
  wk (wpAny_mono h (fun _ _ x => x) fun _ _ x => x.elim) r.1 r.2.1 rfl rfl r.2.2
noncomputable abbrev boundSet (sa : Addr) : Obj := { cls := .type "builtin_function_or_method", data := .fields #[.builtin "set.__contains__", .ref sa] }
noncomputable abbrev seqOf (vs : Array Value) (n : Nat) : Obj := { cls := .type "list", data := .seq vs n }

/-- what X leaves: everything as it stood, and these -/
noncomputable def Grew (h h' : Heap) (l : List (Addr × Obj)) : Prop := (∀ b o, h.get? b = some o → h'.get? b = some o) ∧ (∀ p ∈ l, h'.get? p.1 = some p.2 ∧ h.get? p.1 = none) ∧ (l.map (·.1)).Pairwise (· > ·)
theorem grew_of {h h' : Heap} {l : List (Addr × Obj)} (D : Mem h h' [] l) : Grew h h' l := ⟨fun b o e => D.keep b o e (by simp [away]), D.nw, D.ord⟩
theorem Grew.fr {h₀ h h' : Heap} {l : List (Addr × Obj)} {L : Addr} {m : Str → Option Value} (G : Grew h h' l) (F : Fr h₀ L h m) : Fr h₀ L h' m := ⟨F.ns.keeps G.1, fun b o e => G.1 b o (F.keep b o e), F.above⟩
theorem Grew.news {h₀ h h' : Heap} {l news : List (Addr × Obj)} {L : Addr} {m : Str → Option Value} (G : Grew h h' l) (F : Fr h₀ L h m) (N : News h₀ L h news) : News h₀ L h' (l ++ news) := fun p hp => by
  rcases List.mem_append.mp hp with hp | hp
  · refine ⟨(G.2.1 p hp).1, fun e => ?_, ?_⟩
    · obtain ⟨o, _, _, ho, _⟩ := F.ns
      have := (G.2.1 p hp).2
      rw [e, ho] at this; cases this
    · cases q : h₀.get? p.1 with
      | none => rfl
      | some o => have := (G.2.1 p hp).2; rw [F.keep _ _ q] at this; cases this
  · exact ⟨G.1 _ _ (N p hp).1, (N p hp).2⟩

set_option hygiene false in
local macro_rules | `(tactic| x_close) => `(tactic| (rename Mem _ _ _ _ => D9; exact hQ9 _ _ (grew_of D9)))
section
variable {prog : Program} {w : World} {A : Around} {s : Shared} {Q : Value → Shared → Prop} {E : Value → Shared → Prop}
theorem set_contains_raw (sa : Addr) (es : Array (Int × Value)) (ep : Nat) (t : SetTable) (tk : Tok)
    (ho : s.heap.get? sa = some ⟨.type "set", none, .set es ep t, #[]⟩) (hQ9 : ∀ a h', Grew s.heap h' [(a, boundSet sa)] → Q (.ref a) { s with heap := h' }) :
   wpAny (model prog w) AZ (call (.builtin "set.__getattribute__") [.ref sa, .str (Str.ofString "__contains__") tk]) Q (fun _ _ => False) s := by
  x_run
theorem lookup_set_ga : typeLookup (.type "set") "__getattribute__" = pure (some (.builtin "set.__getattribute__")) := by rw [typeLookup_type, builtinLookup_eq_fast]; kernel_rfl
theorem slot_set_ga : Slot "set" (Str.ofString "__getattribute__") "set.__getattribute__" :=
  .of (owner := "set") (n := "__getattribute__") lookup_set_ga (by decide +kernel) (by decide +kernel) (by decide +kernel) (by first | exact .inl (by decide +kernel) | exact .inr (by decide +kernel)) (by rw [isSubtype_type]; kernel_rfl)
theorem getAttr_set_contains (r : Room A) {sa : Addr} {o : Obj} {es : Array (Int × Value)} {ep : Nat} {t : SetTable} {expr : Bool} (ho : s.heap.get? sa = some o) (hx : o.ExactSet) (hd : o.data = .set es ep t)
    (hQ : ∀ a h', Grew s.heap h' [(a, boundSet sa)] → Q (.ref a) { s with heap := h', toks := s.toks + 1 }) : wpAny (model prog w) A (getAttr (.ref sa) "__contains__" expr) Q E s := by
  obtain ⟨oc, od, oda, osl⟩ := o
  obtain ⟨h1, h2, h3⟩ := hx
  dsimp only at h1 h2 h3 hd
  subst h1 h2 h3 hd
  unfold getAttr
  refine wpAny_bind (wpAny_mkText ?_)
  unfold getAttrBy
  refine wpAny_holding ?_
  refine wpAny_bind (wpAny_typeOf (T := "set") ⟨_, ho, rfl⟩ ?_)
  refine wpAny_bind (wpAny_of_eq lookup_set_ga ?_)
  dsimp only
  rw [if_neg (by decide)]
  unfold getAttrByItsOwn
  refine wpAny_bind (wpAny_of_eq (a := none) rfl ?_)
  refine wpAny_bind (wpAny_attempt ?_)
  unfold callGetattribute boundAndCalled
  rw [if_neg (by simp [onTheHeap])]
  refine wpAny_bind (wpAny_of_eq (slot_set_ga.bind _) ?_)
  refine wkz r (set_contains_raw sa es ep t _ ho fun a h' G => ?_)
  exact wpAny_pure (hQ a h' G)
end
end SL2
section SL3
open PySem PySem.W PySem.W.X PyProof.Rows PySem.Calls
set_option Elab.async false
set_option maxRecDepth 100000
set_option maxHeartbeats 1600000
theorem no_len_filter : typeLookup (.type "filter") "__len__" = pure none := by rw [typeLookup_type, builtinLookup_eq_fast]; kernel_rfl
theorem no_hint_filter : typeLookup (.type "filter") "__length_hint__" = pure none := by rw [typeLookup_type, builtinLookup_eq_fast]; kernel_rfl
theorem no_len_map : typeLookup (.type "map") "__len__" = pure none := by rw [typeLookup_type, builtinLookup_eq_fast]; kernel_rfl
theorem no_hint_map : typeLookup (.type "map") "__length_hint__" = pure none := by rw [typeLookup_type, builtinLookup_eq_fast]; kernel_rfl
theorem slot_filter_next : Slot "filter" "__next__" "filter.__next__" :=
  .of (owner := "filter") (n := "__next__") (by rw [typeLookup_type, builtinLookup_eq_fast]; kernel_rfl) (by decide +kernel) (by decide +kernel) (by decide +kernel)
    (by first | exact .inl (by decide +kernel) | exact .inr (by decide +kernel)) (by rw [isSubtype_type]; kernel_rfl)
theorem entry_filter_next : entryFor table "filter.__next__" = some Builtin.«filter.__next__» := entryFor_of_tree (by kernel_rfl)
theorem args_filter_next (a : Value) : argsOk "filter.__next__" ⟨[a], []⟩ := by unfold argsOk; kernel_rfl
theorem plain_filter_next : plainId "filter.__next__" = true := by decide +kernel
theorem slot_map_next : Slot "map" "__next__" "map.__next__" :=
  .of (owner := "map") (n := "__next__") (by rw [typeLookup_type, builtinLookup_eq_fast]; kernel_rfl) (by decide +kernel) (by decide +kernel) (by decide +kernel)
    (by first | exact .inl (by decide +kernel) | exact .inr (by decide +kernel)) (by rw [isSubtype_type]; kernel_rfl)
theorem entry_map_next : entryFor table "map.__next__" = some Builtin.«map.__next__» := entryFor_of_tree (by kernel_rfl)
theorem args_map_next (a : Value) : argsOk "map.__next__" ⟨[a], []⟩ := by unfold argsOk; kernel_rfl

section
variable {prog : Program} {w : World} {A : Around} {E : Value → Shared → Prop} {s : Shared}
theorem run_contains {K : Type} [DecidableEq K] {knd : KeyKind prog w K} {S : Addr} {mem : K → Bool} {n : Nat} {k : K} {key : Value} {P : Fin → Shared → Prop} (hkey : knd.is k key = true) (hsc : key.scannable = true) (hS : s.heap.SetOf knd S mem n)
    (h : P (.done (.ret (.bool (mem k)))) { s with toks := s.toks + 1 }) : wpAny (model prog w) A (Builtin.«frozenset.__contains__» ⟨[.ref S, key], []⟩) P E s := by
  unfold Builtin.«frozenset.__contains__» Builtin.Frozenset.oneOther
  simp only [List.isEmpty_nil, bind_assoc]
  unfold Builtin.Frozenset.addrOf Builtin.Frozenset.withSetAsKey setContains
  refine wpAny_bind (wpAny_pure ?_)
  try dsimp only
  refine wpAny_bind (wpAny_pure ?_)
  try dsimp only
  refine wpAny_bind (wpAny_tryCatch ?_)
  refine wpAny_holding ?_
  refine wpAny_bind (knd.pyHash hkey ?_)
  refine wpAny_bind (wpAny_setFind_of (s := { s with toks := s.toks + 1 }) hkey hsc hS fun r hr => ?_)
  refine wpAny_pure ?_
  show wpAny _ _ (ret (Value.bool r.isSome)) _ _ _
  rw [hr]
  exact wpAny_pure h
theorem kind_contains : builtinKind "set.__contains__" = some .method := by decide +kernel
theorem sig_contains : ∃ sg, Manifest.signature? "set.__contains__" = some sg ∧ ∀ (a b : Value), Bind.checkArgs "set.__contains__" { sg with full := s!"{Bind.lastOf "set"}.{Bind.lastOf "set.__contains__"}" } ⟨[a, b], []⟩ = pure () := ⟨_, signature?_of (id := "set.__contains__") (n := ['_', '_', 's', 'n', 'i', 'a', 't', 'n', 'o', 'c', '_', '_']) (o := ['t', 'e', 's']) (by kernel_rfl) F.owner_set, fun a b => by kernel_rfl⟩
theorem va_contains : Manifest.varargsMethods.contains "set.__contains__" = false := by decide +kernel
theorem sub_set_module : isSubtype (.type "set") (.type "module") = pure false := by rw [isSubtype_type]; kernel_rfl
theorem sub_set_type : isSubtype (.type "set") (.type "type") = pure false := by rw [isSubtype_type]; kernel_rfl
theorem check_contains {S : Addr} {v : Value} {Q : Unit → Shared → Prop} {o : Obj} {es : Array (Int × Value)} {ep : Nat} {t : SetTable} (ho : s.heap.get? S = some o) (hcl : o.cls = .type "set") (hd : o.data = .set es ep t) (h : Q () s) : wpAny (model prog w) A (checkBoundCall "set.__contains__" ⟨[.ref S, v], []⟩) Q E s := by
  have hT : s.TypeIs (.ref S) "set" := ⟨_, ho, hcl⟩
  obtain ⟨sg, hsg, hok⟩ := sig_contains
  unfold checkBoundCall
  rw [hsg]
  simp only [kind_contains]
  refine KFB.if_not (by decide) ?_
  refine wpAny_bind (wpAny_isInstance hT sub_set_module ?_)
  refine KFB.if_not (by rw [va_contains]; rfl) ?_
  refine wpAny_bind ?_
  obtain ⟨oc, od, oda, osl⟩ := o
  dsimp only at hcl hd
  subst hcl hd
  unfold isType
  refine wpAny_bind (wpAny_loadPart ho ?_)
  refine wpAny_pure ?_
  refine KFB.if_not rfl ?_
  refine wpAny_bind (wpAny_typeOf hT ?_)
  exact wpAny_of_eq (hok _ _) h
theorem quiet_contains {as : Args} : (Code.builtin "set.__contains__" as).quiet = true := Code.quiet_builtin _ (by decide +kernel)
/-- the bound __contains__ of a set of texts -/
theorem call_bound {a S : Addr} {mem : Str → Bool} {n : Nat} {k : Str} {t : Tok} {Q : Value → Shared → Prop} (ho : s.heap.get? a = some (boundSet S)) (hS : s.heap.SetOf (strKind prog w) S mem n)
    (h : Q (.bool (mem k)) { s with toks := s.toks + 1 }) : wpAny (model prog w) A (call (.ref a) [.str k t]) Q E s := by
  refine wpAny_call (codeAny_of_tree ?_)
  show wpAny _ A.in1 (callAny (.ref a) ⟨[.str k t], []⟩) _ _ s
  simp only [callAny]
  refine wpAny_bind (wpAny_load ho ?_)
  simp only [show (Value.type "builtin_function_or_method" == Value.type "method" || Value.type "builtin_function_or_method" == Value.type "builtin_function_or_method" || Value.type "builtin_function_or_method" == Value.type "method-wrapper") = true by decide, if_true]
  refine KFB.if_so (by decide) ?_
  obtain ⟨oS, es, ep, tS, hoS, hxS, hdS, hrS⟩ := id hS
  refine wpAny_bind (check_contains hoS hxS.1 hdS ?_)
  refine wpAny_bind (wpAny_pure (wpAny_pure ?_))
  exact ⟨quiet_contains, codeAny_builtin entry_set_contains (run_contains (strKind_is _ _ _ _) rfl hS h)⟩
theorem wpAny_listnext_item {it l : Addr} {i : Nat} {items : Array Value} {x : Value} {Q : Value → Shared → Prop} (hit : s.heap.IsListIter it l i)
    (hl : s.heap.IsList l items) (hx : items[i]? = some x)
    (hQ : ∀ h', h'.IsListIter it l (i + 1) → Heap.SameBut it s.heap h' → Q x { s with heap := h' }) :
    wpAny (model prog w) A (call (.builtin "list_iterator.__next__") [.ref it]) Q E s := by
  obtain ⟨o, ho, hc, hd⟩ := id hit
  obtain ⟨ol, hol, _, nl, hdl⟩ := hl
  refine wpAny_call_entry slot_listiter_next hit.typeIs entry_listiter_next ?_ (args_listiter_next _)
  show wpAny _ _ (field (.ref it) 0 >>= _) _ _ s
  refine wpAny_bind (wpAny_field ho hd (x := .ref l) rfl ?_)
  show wpAny _ _ (if (Value.ref l == Value.none) = true then _ else _) _ _ s
  rw [if_neg (show ¬ ((Value.ref l == Value.none) = true) from Bool.false_ne_true)]
  show wpAny _ _ (field (.ref it) 1 >>= _) _ _ s
  refine wpAny_bind (wpAny_field ho hd (x := .int i 0) rfl ?_)
  show wpAny _ _ (seqItems? (.ref l) >>= _) _ _ s
  refine wpAny_bind (wpAny_seqItems hol hdl ?_)
  simp only [Int.toNat_natCast, hx]
  refine wpAny_bind (wpAny_setField ho hd (by simp) (wpAny_pure ⟨x, rfl, hQ _ ?_ (Heap.SameBut.update ..)⟩))
  exact ⟨_, Heap.get?_update_self _ ho (Obj.isFreed_of_fields (Obj.data_mapFields hd _)), (Obj.cls_mapFields ..).trans hc, by
    rw [Obj.data_mapFields hd]; simp [rawInt]⟩
theorem wpAny_listnext_end {it l : Addr} {i : Nat} {items : Array Value} {Q : Value → Shared → Prop} (hh : A.handled = none)
    (hit : s.heap.IsListIter it l i) (hl : s.heap.IsList l items) (hx : items[i]? = none)
    (hE : ∀ h' e, Heap.ExtBut it s.heap h' → (∃ o, h'.get? e = some o ∧ o.cls = .type "StopIteration") → E (.ref e) { s with heap := h' }) :
    wpAny (model prog w) A (call (.builtin "list_iterator.__next__") [.ref it]) Q E s := by
  obtain ⟨o, ho, hc, hd⟩ := id hit
  obtain ⟨ol, hol, _, nl, hdl⟩ := hl
  refine wpAny_call_entry slot_listiter_next hit.typeIs entry_listiter_next ?_ (args_listiter_next _)
  show wpAny _ _ (field (.ref it) 0 >>= _) _ _ s
  refine wpAny_bind (wpAny_field ho hd (x := .ref l) rfl ?_)
  show wpAny _ _ (if (Value.ref l == Value.none) = true then _ else _) _ _ s
  rw [if_neg (show ¬ ((Value.ref l == Value.none) = true) from Bool.false_ne_true)]
  show wpAny _ _ (field (.ref it) 1 >>= _) _ _ s
  refine wpAny_bind (wpAny_field ho hd (x := .int i 0) rfl ?_)
  show wpAny _ _ (seqItems? (.ref l) >>= _) _ _ s
  refine wpAny_bind (wpAny_seqItems hol hdl ?_)
  simp only [Int.toNat_natCast, hx]
  refine wpAny_bind (wpAny_rule (wpAny_bind (wpAny_setField ho hd (by simp) ?_)))
  show wpAny _ _ (newExc (.type "StopIteration") [] >>= _) _ _ _
  refine wpAny_bind ?_
  simp only [newExc, newTuple]
  refine wpAny_bind (wpAny_newObj_type ?_ (by size_fits))
  refine wpAny_bind (m := firstArgMember _ _) (wpAny_of_eq (a := Value.none) (by first | rfl | (simp only [firstArgMember]; rfl)) ?_)
  refine wpAny_newObj_type ?_ (by size_fits)
  simp only [raiseNew]
  refine wpAny_bind (wpAny_handled ?_)
  first | rw [show A.in1.handled = none from hh] | rw [hh]
  refine wpAny_bind (wpAny_pure (wpAny_throw ?_))
  exact hE _ _ (((Heap.SameBut.update ..).extBut.push _).push _) ⟨_, Heap.get?_push_size _ rfl, rfl⟩
/-- a filter over a list of texts, by a set of texts -/
noncomputable def FiltAt (prog : Program) (w : World) (I it l a S : Addr) (items : Array Value) (mem : Str → Bool) (cnt : Nat) (p : Nat) (h : Heap) : Prop :=
  h.get? I = some { cls := .type "filter", dict := none, data := .fields #[.ref a, .ref it], slots := #[] } ∧ h.IsListIter it l p ∧ h.IsList l items ∧ h.get? a = some (boundSet S) ∧ h.SetOf (strKind prog w) S mem cnt
theorem FiltAt.at {I it l a S : Addr} {items : Array Value} {mem : Str → Bool} {cnt p : Nat} {h h' : Heap} (x : FiltAt prog w I it l a S items mem cnt p h) (k : ∀ b ∈ [I, it, l, a, S], ∀ o, h.get? b = some o → h'.get? b = some o) : FiltAt prog w I it l a S items mem cnt p h' := by
  obtain ⟨x1, x2, x3, x4, o, es, ep, t, ho, hr⟩ := x
  exact ⟨k I (by simp) _ x1, x2.at fun o e => k it (by simp) o e, x3.at fun o e => k l (by simp) o e, k a (by simp) _ x4, o, es, ep, t, k S (by simp) _ ho, hr⟩
/-- the values that are kept -/
noncomputable def keptOf (mem : Str → Bool) (vs : List Value) : List Value := vs.filter fun v => match v with | .str k _ => mem k | _ => false
theorem keptOf_append (mem : Str → Bool) (a b : List Value) : keptOf mem (a ++ b) = keptOf mem a ++ keptOf mem b := List.filter_append ..
theorem filt_next {I it l a S : Addr} {items : Array Value} {ss : List Str} {mem : Str → Bool} {cnt : Nat} (hss : StrsAre items.toList ss) (hh : A.handled = none) (hne : it ≠ I ∧ it ≠ l ∧ it ≠ a ∧ it ≠ S) {R : Result → Shared → Prop} :
    ∀ (k p : Nat) (s : Shared), items.size - p = k → p ≤ items.size → FiltAt prog w I it l a S items mem cnt p s.heap →
      (∀ v s' q, p ≤ q → q < items.size → keptOf mem ((items.toList.take (q + 1)).drop p) = [v] → items.toList[q]? = some v → FiltAt prog w I it l a S items mem cnt (q + 1) s'.heap → (∃ h' tk, s' = { s with heap := h', toks := tk }) → (∀ b o, b ≠ it → s.heap.get? b = some o → s'.heap.get? b = some o) → R (.ok (.ret v)) s') →
      (∀ e s', keptOf mem (items.toList.drop p) = [] → (∃ h' tk, s' = { s with heap := h', toks := tk }) → (∀ b o, b ≠ it → s.heap.get? b = some o → s'.heap.get? b = some o) → (∃ o, s'.heap.get? e = some o ∧ o.cls = .type "StopIteration") → R (.error (.ref e)) s') →
      codeAny (model prog w) A (.builtin "filter.__next__" ⟨[.ref I], []⟩) R s := by
  intro k
  induction k with
  | zero =>
    intro p s hk hp hF hit hend
    have hpe : p = items.size := by omega
    refine codeAny_builtin entry_filter_next ?_
    rw [Around.under_plainId plain_filter_next _]
    obtain ⟨x1, x2, x3, x4, x5⟩ := hF
    show wpAny _ A.in1 (field (.ref I) 0 >>= _) _ _ s
    refine wpAny_bind (wpAny_field x1 rfl (x := .ref a) rfl ?_)
    show wpAny _ _ (field (.ref I) 1 >>= _) _ _ s
    refine wpAny_bind (wpAny_field x1 rfl (x := .ref it) rfl ?_)
    refine wpAny_bind (wpAny_callSpecial?_slot (name := Str.ofString "__next__") x2.typeIs slot_listiter_next ?_)
    refine wpAny_mono (wpAny_listnext_end hh x2 x3 (by rw [hpe]; simp) (Q := fun _ _ => False) (E := fun e s' => R (.error e) s') fun h' e he hx => ?_) (fun _ _ z => z.elim) fun _ _ z => z
    exact hend e _ (by rw [hpe, ← Array.length_toList, List.drop_length]; rfl) ⟨_, _, rfl⟩ he hx
  | succ k ih =>
    intro p s hk hp hF hit hend
    have hlt : p < items.size := by omega
    have hF' := hF
    refine codeAny_builtin entry_filter_next ?_
    rw [Around.under_plainId plain_filter_next _]
    obtain ⟨x1, x2, x3, x4, x5⟩ := hF
    show wpAny _ A.in1 (field (.ref I) 0 >>= _) _ _ s
    refine wpAny_bind (wpAny_field x1 rfl (x := .ref a) rfl ?_)
    show wpAny _ _ (field (.ref I) 1 >>= _) _ _ s
    refine wpAny_bind (wpAny_field x1 rfl (x := .ref it) rfl ?_)
    have hget : items[p]? = some items[p] := by simp [hlt]
    obtain ⟨y, ty, hy, hyy⟩ := StrsAre.item hss p items[p] (by rw [Array.getElem?_toList]; exact hget)
    refine wpAny_bind (wpAny_callSpecial?_slot (name := Str.ofString "__next__") x2.typeIs slot_listiter_next ?_)
    refine wpAny_listnext_item x2 x3 hget fun h' hit' hs' => ?_
    rw [hy]
    try dsimp only
    have hF₁ : FiltAt prog w I it l a S items mem cnt (p + 1) h' := by
      obtain ⟨o, es, ep, t, ho, hr⟩ := x5
      have ext := hs'.extBut
      exact ⟨ext I _ hne.1.symm x1, hit', x3.extBut ext hne.2.1.symm, ext a _ hne.2.2.1.symm x4, o, es, ep, t, ext S _ hne.2.2.2.symm ho, hr⟩
    refine wpAny_bind (wpAny_holding ?_)
    refine KFB.if_not rfl ?_
    refine wpAny_bind (call_bound hF₁.2.2.2.1 hF₁.2.2.2.2 ?_)
    refine wpAny_holding (wpAny_truthy_bool ?_)
    have hk1 : (items.toList.take (p + 1)).drop p = [items[p]] := by
      rw [List.take_add_one, List.drop_append_of_le_length (by rw [List.length_take, Array.length_toList]; omega), Array.getElem?_toList, hget]
      rw [List.drop_eq_nil_of_le (by rw [List.length_take]; omega)]; rfl
    have hd1 : items.toList.drop p = items[p] :: items.toList.drop (p + 1) := by
      rw [List.drop_eq_getElem_cons (by rw [Array.length_toList]; exact hlt), Array.getElem_toList]
    cases hm : mem y with
    | true =>
      refine KFB.if_so rfl ?_
      refine wpAny_pure ?_
      exact hit _ _ p (Nat.le_refl _) hlt (by rw [hk1, hy]; simp [keptOf, hm]) (by rw [Array.getElem?_toList, hget, hy]) hF₁ ⟨_, _, rfl⟩ fun b o hb e => hs'.extBut b o hb e
    | false =>
      refine KFB.if_not rfl ?_
      refine wpAny_pure ⟨plainId_quiet plain_filter_next _, ?_⟩
      refine ih (p + 1) _ (by omega) hlt hF₁ (fun v s' q h1 h2 h3 h4 h5 h6 h7 => ?_) fun e s' h3 h6 h7 h8 => ?_
      · refine hit v s' q (by omega) h2 ?_ h4 h5 (by obtain ⟨h9, tk9, rfl⟩ := h6; exact ⟨_, _, rfl⟩) fun b o hb e => h7 b o hb (hs'.extBut b o hb e)
        have e9 : (items.toList.take (q + 1)).drop p = items[p] :: (items.toList.take (q + 1)).drop (p + 1) := by
          rw [List.drop_eq_getElem_cons (by rw [List.length_take, Array.length_toList]; omega)]
          simp
        rw [e9, hy]
        show keptOf mem ([Value.str y ty] ++ _) = _
        rw [keptOf_append, h3]
        simp [keptOf, hm]
      · refine hend e s' ?_ (by obtain ⟨h9, tk9, rfl⟩ := h6; exact ⟨_, _, rfl⟩) (fun b o hb e => h7 b o hb (hs'.extBut b o hb e)) h8
        rw [hd1, hy]
        show keptOf mem ([Value.str y ty] ++ _) = _
        rw [keptOf_append, h3]
        simp [keptOf, hm]
end
end SL3
section SL4
open PySem PySem.W PySem.W.X PyProof.Rows PySem.Calls
set_option Elab.async false
set_option maxRecDepth 100000
set_option maxHeartbeats 1600000
/-- acc0 and i values more, each as P says -/
noncomputable def More (acc0 : List Value) (P : Nat → Value → Prop) (acc : Array Value) (i : Nat) : Prop := ∃ vs : List Value, acc.toList = acc0 ++ vs ∧ vs.length = i ∧ ∀ j v, vs[j]? = some v → P j v
theorem More.push {acc0 : List Value} {P : Nat → Value → Prop} {acc : Array Value} {i : Nat} {x : Value} (h : More acc0 P acc i) (hx : P i x) : More acc0 P (acc.push x) (i + 1) := by
  obtain ⟨vs, e, hl, hp⟩ := h
  refine ⟨vs ++ [x], by rw [Array.toList_push, e, List.append_assoc], by simp [hl], fun j v hj => ?_⟩
  by_cases hlt : j < vs.length
  · rw [List.getElem?_append_left hlt] at hj; exact hp j v hj
  · rw [List.getElem?_append_right (Nat.le_of_not_lt hlt)] at hj
    have : j - vs.length = 0 := by
      cases hz : j - vs.length with
      | zero => rfl
      | succ q => rw [hz] at hj; simp at hj
    rw [this] at hj
    simp at hj
    subst hj
    have : j = i := by omega
    rw [this]; exact hx
theorem More.size {acc0 : List Value} {P : Nat → Value → Prop} {acc : Array Value} {i : Nat} (h : More acc0 P acc i) : acc.size = acc0.length + i := by
  obtain ⟨vs, e, hl, _⟩ := h
  rw [← Array.length_toList, e, List.length_append, hl]
section
variable {prog : Program} {w : World} {A : Around} {E : Value → Shared → Prop} {s : Shared} {I : Addr} {fp wr : List Addr} {n : Nat} {P : Nat → Value → Prop} {St : Nat → Heap → Prop} {R : Result → Shared → Prop}
theorem ext_loop (W : Walks prog w A.in1 I fp wr n P St) (acc0 : List Value) (hn : acc0.length + n ≤ sizeLine) (S : Addr) (hSf : S ∉ fp) (res : Value) :
    ∀ (k i : Nat) (s : Shared) (acc : Array Value) (c : Nat), n - i = k → i ≤ n → St i s.heap → s.heap.get? S = some { cls := .type "list", dict := none, data := .seq acc c, slots := #[] } → More acc0 P acc i →
    (∀ h' tk acc' c', (∀ b o, b ∉ S :: wr → s.heap.get? b = some o → h'.get? b = some o) → h'.get? S = some { cls := .type "list", dict := none, data := .seq acc' c', slots := #[] } → More acc0 P acc' n → R (.ok (.ret res)) { s with heap := h', toks := tk }) →
    codeAny (model prog w) A (.builtin "list.extend.loop" ⟨[.ref S, .ref I, res], []⟩) R s := by
  have hSw : S ∉ wr := fun h => hSf (W.sub _ h)
  intro k
  induction k with
  | zero =>
    intro i s acc c hk hi hst hS hacc hR
    have hin : i = n := by omega
    subst hin
    refine codeAny_builtin F.entry_extend_loop ?_
    rw [Around.under_plainId F.plain_extend_loop _]
    show wpAny _ A.in1 (pyNext (.ref I) >>= _) _ _ s
    refine wpAny_bind (W.done s _ _ hst fun h' tk hm => ?_)
    exact wpAny_pure (hR h' tk acc c (fun b o hb e => hm b o (fun h => hb (List.mem_cons_of_mem _ h)) e) (hm S _ hSw hS) hacc)
  | succ k ih =>
    intro i s acc c hk hi hst hS hacc hR
    have hlt : i < n := by omega
    refine codeAny_builtin F.entry_extend_loop ?_
    rw [Around.under_plainId F.plain_extend_loop _]
    show wpAny _ A.in1 (pyNext (.ref I) >>= _) _ _ s
    refine wpAny_bind (W.item i s _ _ hlt hst fun v h' tk hP hst' hm => ?_)
    have hS' := hm S _ hSw hS
    have hsz := hacc.size
    show wpAny _ A.in1 (updateSeq S (·.push v) >>= _) _ _ _
    refine wpAny_bind ?_
    refine wpAny_updateSeq hS' rfl (wpAny_pure ⟨plainId_quiet F.plain_extend_loop _, ih (i + 1) _ (acc.push v) _ (by omega) hlt (W.frame _ h' _ hst' fun b hb o e => ?_) (Heap.get?_update_self _ hS' rfl) (hacc.push hP) fun h'' tk' acc' c' hk'' hS'' hacc' => ?_⟩)
      (by omega) (by show (acc.push v).size ≤ sizeLine + 1; rw [Array.size_push]; omega)
    · exact (Heap.get?_update_other _ _ (fun h : S = b => hSf (by rw [h]; exact hb))).trans e
    · refine hR h'' tk' acc' c' (fun b o hb e => hk'' b o hb ?_) hS'' hacc'
      exact (Heap.get?_update_other _ _ (fun h : S = b => hb (by rw [h]; exact List.mem_cons_self))).trans (hm b o (fun h => hb (List.mem_cons_of_mem _ h)) e)

/-- list.extend of an iterator that tells no length -/
theorem extend_it {T : String} (hLn : (Value.type T == Value.type "list") = false) (hTn : (Value.type T == Value.type "tuple") = false) (hnl : typeLookup (.type T) "__len__" = pure none) (hnh : typeLookup (.type T) "__length_hint__" = pure none)
    (W : Walks prog w A.in1 I fp wr n P St) (hT : ∀ (i : Nat) (s : Shared), St i s.heap → s.TypeIs (.ref I) T) (S : Addr) (res : Value) (acc0 : Array Value) (c₀ : Nat) (hn : acc0.size + n < sizeLine) (hst : St 0 s.heap) (hSf : S ∉ fp) (hI : I ∈ fp)
    (hS : s.heap.get? S = some { cls := .type "list", dict := none, data := .seq acc0 c₀, slots := #[] })
    (hR : ∀ h' tk acc' c', (∀ b o, b ∉ S :: wr → s.heap.get? b = some o → h'.get? b = some o) → h'.get? S = some { cls := .type "list", dict := none, data := .seq acc' c', slots := #[] } → More acc0.toList P acc' n → R (.ok (.ret res)) { s with heap := h', toks := tk }) :
    wpAny (model prog w) A.in1 (Builtin.List.listExtendWith (.ref S) (.ref I) res)
      (fun fin s' => match fin with | .done f => R (.ok f) s' | .again c' => c'.quiet = true ∧ codeAny (model prog w) A c' R s') (fun e s' => R (.error e) s') s := by
  have hSI : S ≠ I := fun e => hSf (e ▸ hI)
  unfold Builtin.List.listExtendWith
  refine wpAny_bind (wpAny_typeOf (hT 0 _ hst) ?_)
  have h1 : Builtin.List.listSameRef (.ref S) (.ref I) = false := by simp [Builtin.List.listSameRef, hSI]
  simp only [h1, hLn, hTn, Bool.or_false, Bool.false_eq_true, if_false]
  refine wpAny_bind (W.self 0 _ _ _ hst ?_)
  refine wpAny_bind (wpAny_holding ?_)
  unfold Builtin.List.listLengthHint
  refine wpAny_bind (wpAny_specialOf (hT 0 _ hst) hnl ?_)
  show wpAny _ A.in1 (specialOf (Value.ref I) (Str.ofString "__length_hint__") >>= _) _ _ _
  refine wpAny_bind (wpAny_specialOf (hT 0 _ hst) hnh ?_)
  refine wpAny_pure ?_
  have fin : ∀ (s₂ : Shared) (c₁ : Nat), s₂.heap.get? S = some { cls := .type "list", dict := none, data := .seq acc0 c₁, slots := #[] } → (∃ h, s₂ = { s with heap := h }) → (∀ b o, b ≠ S → s.heap.get? b = some o → s₂.heap.get? b = some o) →
      codeAny (model prog w) A (.builtin "list.extend.loop" ⟨[.ref S, .ref I, res], []⟩) R s₂ := by
    rintro s₂ c₁ hS₂ ⟨h₂, rfl⟩ oth
    refine ext_loop W acc0.toList (by rw [Array.length_toList]; omega) S hSf res n 0 _ acc0 c₁ rfl (Nat.zero_le _) (W.frame 0 s.heap h₂ hst fun b hb o e => oth b o (fun h => hSf (h ▸ hb)) e) hS₂ ⟨[], by simp, rfl, fun j v hj => by simp at hj⟩ fun h' tk acc' c' hk hS' hacc => ?_
    exact hR h' tk acc' c' (fun b o hb e => hk b o hb (oth b o (fun h => hb (h ▸ List.mem_cons_self)) e)) hS' hacc
  show wpAny _ A.in1 (rule "list.extend.makes-room" >>= fun _ => Builtin.List.listTouch (.ref S) >>= fun _ => again (.builtin "list.extend.loop" ⟨[.ref S, .ref I, res], []⟩)) _ _ _
  refine wpAny_bind (wpAny_rule ?_)
  refine wpAny_bind ?_
  show wpAny _ A.in1 (updateSeq S (·.push .none) >>= fun _ => updateSeq S (·.pop)) _ _ _
  have hS₂ := Heap.get?_update_self (Obj.mapSeq (·.push Value.none)) hS rfl
  have hS₃ := Heap.get?_update_self (Obj.mapSeq (·.pop)) hS₂ rfl
  refine wpAny_bind (wpAny_updateSeq hS rfl ?_ (by omega) (by show (acc0.push Value.none).size ≤ _; rw [Array.size_push]; omega))
  refine wpAny_updateSeq hS₂ rfl ?_ (by show (acc0.push Value.none).size ≤ _; rw [Array.size_push]; omega) (by show ((acc0.push Value.none).pop).size ≤ _; rw [Array.size_pop, Array.size_push]; omega)
  refine wpAny_pure ⟨plainId_quiet F.plain_extend_loop _, fin _ _ (by
    have e9 : ((acc0.push Value.none).pop) = acc0 := Array.pop_push ..
    rw [hS₃]
    show some ({ cls := .type "list", dict := none, data := .seq (acc0.push Value.none).pop _, slots := #[] } : Obj) = _
    rw [e9]) ⟨_, rfl⟩ fun b o hb e => ?_⟩
  exact (Heap.get?_update_other _ _ (Ne.symm hb)).trans ((Heap.get?_update_other _ _ (Ne.symm hb)).trans e)
end
end SL4
section SL5
open PySem PySem.W PySem.W.X PyProof.Rows PySem.Calls
set_option Elab.async false
set_option maxRecDepth 100000
set_option maxHeartbeats 0
set_option hygiene false in
local macro_rules | `(tactic| x_close) => `(tactic| (rename Mem _ _ _ _ => D9; exact hQ9 _ _ _ (grew_of D9)))
noncomputable abbrev liObj (l : Addr) (p : Nat) : Obj := { cls := .type "list_iterator", data := .fields #[.ref l, .int p 0] }
noncomputable abbrev filtObj (a it : Addr) : Obj := { cls := .type "filter", dict := none, data := .fields #[.ref a, .ref it], slots := #[] }
section
variable {prog : Program} {w : World} {A : Around} {s : Shared} {Q : Value → Shared → Prop} {E : Value → Shared → Prop}
theorem filter_raw (a l S : Addr) (vs : Array Value) (n : Nat) (ha : s.heap.get? a = some ⟨.type "builtin_function_or_method", none, .fields #[.builtin "set.__contains__", .ref S], #[]⟩) (hl : s.heap.get? l = some ⟨.type "list", none, .seq vs n, #[]⟩)
  (hQ9 : ∀ I it h', Grew s.heap h' [(I, filtObj a it), (it, liObj l 0)] → Q (.ref I) { s with heap := h' }) :
   wpAny (model prog w) AZ (call (.type "filter") [.ref a, .ref l]) Q (fun _ _ => False) s := by
  x_run
theorem slot_filter_iter : Slot "filter" "__iter__" "filter.__iter__" :=
  .of (owner := "filter") (n := "__iter__") (by rw [typeLookup_type, builtinLookup_eq_fast]; kernel_rfl) (by decide +kernel) (by decide +kernel) (by decide +kernel)
    (by first | exact .inl (by decide +kernel) | exact .inr (by decide +kernel)) (by rw [isSubtype_type]; kernel_rfl)
theorem entry_filter_iter : entryFor table "filter.__iter__" = some Builtin.«dict_keyiterator.__iter__» := entryFor_alias (id' := "dict_keyiterator.__iter__") (by kernel_rfl) rfl (by decide +kernel) (by kernel_rfl)
theorem args_filter_iter (a : Value) : argsOk "filter.__iter__" ⟨[a], []⟩ := by unfold argsOk; kernel_rfl
theorem FiltAt.typeIs {I it l a S : Addr} {items : Array Value} {mem : Str → Bool} {cnt p : Nat} (x : FiltAt prog w I it l a S items mem cnt p s.heap) : s.TypeIs (.ref I) "filter" := ⟨_, x.1, rfl⟩
theorem filt_walks {I it l a S : Addr} {items : Array Value} {ss : List Str} {mem : Str → Bool} {cnt : Nat} (hss : StrsAre items.toList ss) (hh : A.handled = none) (hne : it ≠ I ∧ it ≠ l ∧ it ≠ a ∧ it ≠ S) :
    Walks prog w A I [I, it, l, a, S] [it] (keptOf mem items.toList).length (fun i v => (keptOf mem items.toList)[i]? = some v) (fun i h => ∃ p, p ≤ items.size ∧ (keptOf mem (items.toList.take p)).length = i ∧ FiltAt prog w I it l a S items mem cnt p h) where
  sub := fun b hb => by rw [List.mem_singleton.mp hb]; simp
  frame := fun i h h' ⟨p, h1, h2, h3⟩ hk => ⟨p, h1, h2, h3.at hk⟩
  item := fun i s Q E hi ⟨p, h1, h2, h3⟩ hQ => by
    unfold pyNext
    refine wpAny_bind (wpAny_attempt (wpAny_callSpecial?_slot (name := Str.ofString "__next__") h3.typeIs slot_filter_next ?_))
    refine wpAny_call (codeAny_call_builtin_code (plainId_quiet plain_filter_next _) (slot_filter_next.check _ _ _ _ _ _ _ _ h3.typeIs (args_filter_next _) ?_))
    refine filt_next hss (by exact hh) hne (items.size - p) p s rfl h1 h3 (fun v s' q q1 q2 q3 q4 q5 q6 q7 => ?_) fun e s' q1 _ _ _ => ?_
    · have e9 : items.toList.take (q + 1) = items.toList.take p ++ (items.toList.take (q + 1)).drop p := by
        have := (List.take_append_drop p (items.toList.take (q + 1))).symm
        rw [List.take_take, Nat.min_eq_left (by omega)] at this
        exact this
      have e8 : keptOf mem (items.toList.take (q + 1)) = keptOf mem (items.toList.take p) ++ [v] := by rw [e9, keptOf_append, q3]
      have e7 : keptOf mem items.toList = keptOf mem (items.toList.take p) ++ [v] ++ keptOf mem (items.toList.drop (q + 1)) := by rw [← e8, ← keptOf_append, List.take_append_drop]
      obtain ⟨h', tk, rfl⟩ := q6
      refine wpAny_pure (hQ v h' tk ?_ ⟨q + 1, q2, ?_, q5⟩ fun b o hb => q7 b o (by simpa using hb))
      · rw [e7, List.append_assoc, List.getElem?_append_right (by omega), h2, Nat.sub_self]; rfl
      · rw [e8, List.length_append, h2]; rfl
    · exfalso
      have e7 : keptOf mem items.toList = keptOf mem (items.toList.take p) ++ keptOf mem (items.toList.drop p) := by rw [← keptOf_append, List.take_append_drop]
      rw [e7, q1, List.append_nil, h2] at hi
      exact Nat.lt_irrefl _ hi
  done := fun s Q E ⟨p, h1, h2, h3⟩ hQ => by
    unfold pyNext
    refine wpAny_bind (wpAny_attempt (wpAny_callSpecial?_slot (name := Str.ofString "__next__") h3.typeIs slot_filter_next ?_))
    refine wpAny_call (codeAny_call_builtin_code (plainId_quiet plain_filter_next _) (slot_filter_next.check _ _ _ _ _ _ _ _ h3.typeIs (args_filter_next _) ?_))
    refine filt_next hss (by exact hh) hne (items.size - p) p s rfl h1 h3 (fun v s' q q1 q2 q3 q4 q5 q6 q7 => ?_) fun e s' q1 q2 q3 q4 => ?_
    · exfalso
      have e9 : items.toList.take (q + 1) = items.toList.take p ++ (items.toList.take (q + 1)).drop p := by
        have := (List.take_append_drop p (items.toList.take (q + 1))).symm
        rw [List.take_take, Nat.min_eq_left (by omega)] at this
        exact this
      have e8 : keptOf mem (items.toList.take (q + 1)) = keptOf mem (items.toList.take p) ++ [v] := by rw [e9, keptOf_append, q3]
      have e7 : keptOf mem items.toList = keptOf mem (items.toList.take p) ++ [v] ++ keptOf mem (items.toList.drop (q + 1)) := by rw [← e8, ← keptOf_append, List.take_append_drop]
      have := congrArg List.length e7
      rw [List.length_append, List.length_append, h2] at this
      simp at this
      omega
    · obtain ⟨h', tk, rfl⟩ := q2
      obtain ⟨o, ho, hc⟩ := q4
      refine wpAny_bind (wpAny_isInstance (T := "StopIteration") (b := true) ⟨o, ho, hc⟩ isSubtype_stop ?_)
      exact wpAny_pure (hQ _ _ fun b o hb => q3 b o (by simpa using hb))
  self := fun i s Q E ⟨p, h1, h2, h3⟩ hQ => by
    refine wpAny_pyIter_slot h3.typeIs slot_filter_iter (wpAny_call_entry slot_filter_iter h3.typeIs entry_filter_iter ?_ (args_filter_iter _))
    show wpAny _ _ (ret (.ref I)) _ _ s
    exact wpAny_pure ⟨_, rfl, "filter", _, h3.typeIs, slot_filter_next.lookup, hQ⟩
/-- list of a filter over texts -/
theorem list_filter {I it l a S : Addr} {items : Array Value} {ss : List Str} {mem : Str → Bool} {cnt : Nat} (hss : StrsAre items.toList ss) (hh : A.handled = none) (hne : it ≠ I ∧ it ≠ l ∧ it ≠ a ∧ it ≠ S) (hsz : items.size < 1000)
    (hF : FiltAt prog w I it l a S items mem cnt 0 s.heap)
    (hQ : ∀ D h' tk c, s.heap.get? D = none → D = s.heap.objs.size → h'.get? D = some { cls := .type "list", dict := none, data := .seq (keptOf mem items.toList).toArray c, slots := #[] } → (∀ b o, b ≠ it → s.heap.get? b = some o → h'.get? b = some o) → Q (.ref D) { s with heap := h', toks := tk }) :
    wpAny (model prog w) A (call (.type "list") [.ref I]) Q E s := by
  have hlt : ∀ b ∈ [I, it, l, a, S], b < s.heap.objs.size := by
    obtain ⟨x1, ⟨_, x2, _⟩, ⟨_, x3, _⟩, x4, _, _, _, _, x5, _⟩ := hF
    intro b hb
    simp only [List.mem_cons, List.not_mem_nil, or_false] at hb
    rcases hb with rfl | rfl | rfl | rfl | rfl
    · exact Heap.lt_size x1
    · exact Heap.lt_size x2
    · exact Heap.lt_size x3
    · exact Heap.lt_size x4
    · exact Heap.lt_size x5
  have hSf : s.heap.objs.size ∉ [I, it, l, a, S] := fun hm => Nat.lt_irrefl _ (hlt _ hm)
  have hnone : s.heap.get? s.heap.objs.size = none := by
    cases e : s.heap.get? s.heap.objs.size with
    | none => rfl
    | some o => exact absurd (Heap.lt_size e) (Nat.lt_irrefl _)
  have hkl : (keptOf mem items.toList).length ≤ items.size := by rw [← Array.length_toList]; exact List.length_filter_le ..
  refine callType_codes (Q₁ := fun obj s₁ => obj = .ref s.heap.objs.size ∧ s₁ = { s with heap := s.heap.push { cls := .type "list", data := .seq #[] } }) F.called_list (F.typeCall_list_1 _) F.entry_list_init
    (code_list_new _ ⟨rfl, rfl⟩) fun obj s₁ h₁ => ?_
  obtain ⟨rfl, rfl⟩ := h₁
  have hS : (s.heap.push { cls := .type "list", data := .seq #[] }).get? s.heap.objs.size = some { cls := .type "list", data := .seq #[] } := Heap.get?_push_size _ rfl
  have hF₁ : FiltAt prog w I it l a S items mem cnt 0 (s.heap.push { cls := .type "list", data := .seq #[] }) := hF.at fun b _ o e => Heap.get?_push_of_some _ e
  refine ⟨⟨_, hS, rfl⟩, F.args_list_init_2 _ _, ?_⟩
  show wpAny _ _ (do let old ← Builtin.List.listItems (.ref s.heap.objs.size); Builtin.List.listUpdate (.ref s.heap.objs.size) (fun _ => #[]); letGo old.toList.reverse; Builtin.List.listExtendWith (.ref s.heap.objs.size) (.ref I) .none) _ _ _
  refine wpAny_bind ?_
  unfold Builtin.List.listItems
  refine wpAny_bind (wpAny_seqItems hS rfl (wpAny_pure ?_))
  show wpAny _ _ (updateSeq s.heap.objs.size (fun _ => #[]) >>= fun _ => letGo (#[] : Array Value).toList.reverse >>= fun _ => Builtin.List.listExtendWith (.ref s.heap.objs.size) (.ref I) .none) _ _ _
  refine wpAny_bind (wpAny_updateSeq hS rfl ?_)
  have hS₂ := Heap.get?_update_self (Obj.mapSeq (fun _ => (#[] : Array Value))) hS rfl
  have oth : ∀ b o, b ≠ s.heap.objs.size → (s.heap.push { cls := .type "list", data := .seq #[] }).get? b = some o → ((s.heap.push { cls := .type "list", data := .seq #[] }).update s.heap.objs.size (Obj.mapSeq (fun _ => (#[] : Array Value)))).get? b = some o :=
    fun b o hb e => (Heap.get?_update_other _ _ (Ne.symm hb)).trans e
  refine wpAny_bind (wpAny_letGo ?_)
  refine extend_it (by decide) (by decide) no_len_filter no_hint_filter (filt_walks (mem := mem) (cnt := cnt) hss (by exact hh) hne) (fun i s' ⟨p, _, _, h3⟩ => h3.typeIs) s.heap.objs.size .none #[] _ (by rw [sizeLine_eq]; show 0 + _ < _; omega)
    ⟨0, Nat.zero_le _, rfl, hF₁.at fun b hb o e => oth b o (fun h => hSf (h ▸ hb)) e⟩ hSf (by simp) hS₂ fun h' tk acc' c' hk hS' hacc => ?_
  obtain ⟨vs, e1, e2, e3⟩ := hacc
  have hvs : acc' = (keptOf mem items.toList).toArray := by
    apply Array.toList_inj.mp
    rw [e1, List.toList_toArray]
    show [] ++ vs = _
    rw [List.nil_append]
    apply List.ext_getElem?
    intro j
    by_cases hj : j < vs.length
    · have h9 := e3 j vs[j] (by simp [hj])
      rw [h9]; simp [hj]
    · have h8 : vs.length = (keptOf mem items.toList).toArray.toList.length := by simp [e2]
      rw [List.getElem?_eq_none (Nat.le_of_not_lt hj), List.getElem?_eq_none (h8 ▸ Nat.le_of_not_lt hj)]
  subst hvs
  refine ⟨rfl, hQ _ h' tk c' hnone rfl hS' fun b o hb e => hk b o (fun hm => ?_) (oth b o ?_ (Heap.get?_push_of_some _ e))⟩
  · rcases List.mem_cons.mp hm with rfl | hm
    · rw [hnone] at e; cases e
    · exact hb (List.mem_singleton.mp hm)
  · rintro rfl
    rw [hnone] at e; cases e
end
end SL5
section SM1
open PySem PySem.W PySem.W.X PyProof.Rows PySem.Calls
set_option Elab.async false
set_option maxRecDepth 100000
set_option maxHeartbeats 1600000
noncomputable def memOf (ss : List Str) (k : Str) : Bool := ss.any (· == k)
theorem met_mem (ss : List Str) (k : Str) : (met (fun i => ss.getD i default) ss.length).any (· == k) = memOf ss k := by
  rw [met_any]
  unfold memOf
  induction ss with
  | nil => rfl
  | cons x ss ih =>
    rw [List.length_cons, List.range_succ_eq_map, List.any_cons, List.any_cons, List.any_map, ← ih]
    rfl
structure SetAt (prog : Program) (w : World) (S : Addr) (oS : Obj) (mem : Str → Bool) : Prop where
  of : ∃ cnt, ∀ h : Heap, h.get? S = some oS → h.SetOf (strKind prog w) S mem cnt
  ex : oS.ExactSet
  dat : ∃ es ep t, oS.data = .set es ep t
section
variable {prog : Program} {w : World} {A : Around} {E : Value → Shared → Prop} {s : Shared} {h₀ : Heap} {L : Addr} {m : Str → Option Value} {news : List (Addr × Obj)} {Q : Value → Shared → Prop}
theorem news_lt {h : Heap} (N : News h₀ L h news) : ∀ p ∈ news, p.1 < h.objs.size := fun p hp => Heap.lt_size (N p hp).1
theorem fr_off {h : Heap} (F : Fr h₀ L h m) {D : Addr} (hD : h.get? D = none) : D ≠ L ∧ h₀.get? D = none := by
  obtain ⟨o, _, _, ho, _⟩ := F.ns
  refine ⟨fun e => (by rw [e, ho] at hD; cases hD), ?_⟩
  cases e : h₀.get? D with
  | none => rfl
  | some q => rw [F.keep _ _ e] at hD; cases hD
theorem none_size (h : Heap) : h.get? h.objs.size = none := by
  cases e : h.get? h.objs.size with
  | none => rfl
  | some o => exact absurd (Heap.lt_size e) (Nat.lt_irrefl _)
theorem k_set {b : Addr} {its : List Value} {k : Nat} {ss : List Str} (F : Fr h₀ L s.heap m) (N : News h₀ L s.heap news) (hm : (b, W.listOf its.toArray k) ∈ news) (hss : StrsAre its ss) (hh : A.handled = none) (hsz : its.length < 1000)
    (h : ∀ S oS h' tk, Fr h₀ L h' m → News h₀ L h' ((S, oS) :: news) → (∀ p ∈ news, p.1 < S) → SetAt prog w S oS (memOf ss) → Q (.ref S) { s with heap := h', toks := tk }) :
    wpAny (model prog w) A (call (.type "set") [.ref b]) Q E s := by
  refine set_of_strs (ss := ss) hh ⟨_, (N _ hm).1, rfl, _, rfl⟩ (by simpa using hss) (by unfold scanBound; simp; omega) fun h' tk hS hk => ?_
  have hlen : its.toArray.size = ss.length := by rw [List.size_toArray]; exact hss.length
  rw [hlen] at hS
  obtain ⟨o, es, ep, t, ho, hx, hd, hr⟩ := hS
  have hk' : ∀ b o, s.heap.get? b = some o → h'.get? b = some o := fun b o e => hk b o (Heap.lt_size e) e
  refine h _ o h' tk (F.keptAll hk') (fun p hp => ?_) (news_lt N) ⟨⟨_, fun h2 e2 => SetOf_congr ⟨o, es, ep, t, e2, hx, hd, hr⟩ (fun k => met_mem ss k) rfl⟩, hx, es, ep, t, hd⟩
  rcases List.mem_cons.mp hp with rfl | hp
  · exact ⟨ho, fr_off F (none_size _)⟩
  · exact ⟨hk' _ _ (N p hp).1, (N p hp).2⟩
theorem grew_ne {h h' : Heap} {l : List (Addr × Obj)} (G : Grew h h' l) (N : News h₀ L h news) {p : Addr × Obj} (hp : p ∈ l) : ∀ q ∈ news, q.1 ≠ p.1 := fun q hq e => by
  have := (G.2.1 p hp).2; rw [← e, (N q hq).1] at this; cases this
theorem k_contains {S : Addr} {oS : Obj} {mem : Str → Bool} {expr : Bool} (F : Fr h₀ L s.heap m) (N : News h₀ L s.heap news) (hm : (S, oS) ∈ news) (hS : SetAt prog w S oS mem) (r : Room A)
    (h : ∀ a h' tk, Fr h₀ L h' m → News h₀ L h' ((a, boundSet S) :: news) → (∀ p ∈ news, p.1 ≠ a) → Q (.ref a) { s with heap := h', toks := tk }) :
    wpAny (model prog w) A (getAttr (.ref S) "__contains__" expr) Q E s := by
  obtain ⟨es, ep, t, hd⟩ := hS.dat
  exact getAttr_set_contains r (N _ hm).1 hS.ex hd fun a h' G => h a h' _ (G.fr F) (G.news F N) (grew_ne G N (.head _))
theorem k_filter {a l S : Addr} {its : List Value} {k : Nat} (F : Fr h₀ L s.heap m) (N : News h₀ L s.heap news) (ha : (a, boundSet S) ∈ news) (hl : (l, W.listOf its.toArray k) ∈ news) (r : Room A)
    (h : ∀ I it h', Fr h₀ L h' m → News h₀ L h' ((I, filtObj a it) :: (it, liObj l 0) :: news) → (∀ p ∈ news, p.1 ≠ I) → (∀ p ∈ news, p.1 ≠ it) → it ≠ I → Q (.ref I) { s with heap := h' }) :
    wpAny (model prog w) A (call (.type "filter") [.ref a, .ref l]) Q E s :=
  wkz r (filter_raw a l S its.toArray k (N _ ha).1 (N _ hl).1 fun I it h' G => h I it h' (G.fr F) (G.news F N) (grew_ne G N (.head _)) (grew_ne G N (.tail _ (.head _))) (by
    have := G.2.2
    simp only [List.map_cons, List.map_nil, List.pairwise_cons, List.mem_cons, List.not_mem_nil, or_false, forall_eq] at this
    exact Nat.ne_of_lt this.1))
theorem k_listfilter {I it a l S : Addr} {oS : Obj} {mem : Str → Bool} {its : List Value} {k : Nat} {ss : List Str} {keep : List (Addr × Obj)} (F : Fr h₀ L s.heap m) (N : News h₀ L s.heap news) (hI : (I, filtObj a it) ∈ news) (hit : (it, liObj l 0) ∈ news) (ha : (a, boundSet S) ∈ news) (hS : (S, oS) ∈ news) (hSet : SetAt prog w S oS mem)
    (hl : (l, W.listOf its.toArray k) ∈ news) (hss : StrsAre its ss) (hsz : its.length < 1000) (hh : A.handled = none) (n1 : it ≠ I) (n2 : it ≠ l) (n3 : it ≠ a) (n4 : it ≠ S) (hkeep : ∀ p ∈ keep, p ∈ news ∧ p.1 ≠ it)
    (h : ∀ D h' tk c, Fr h₀ L h' m → News h₀ L h' ((D, W.listOf (keptOf mem its).toArray c) :: keep) → (∀ p ∈ keep, p.1 < D) → Q (.ref D) { s with heap := h', toks := tk }) :
    wpAny (model prog w) A (call (.type "list") [.ref I]) Q E s := by
  obtain ⟨cnt, hcnt⟩ := hSet.of
  have hF : FiltAt prog w I it l a S its.toArray mem cnt 0 s.heap := ⟨(N _ hI).1, ⟨_, (N _ hit).1, rfl, rfl⟩, ⟨_, (N _ hl).1, rfl, _, rfl⟩, (N _ ha).1, hcnt _ (N _ hS).1⟩
  refine list_filter (ss := ss) (by simpa using hss) hh ⟨n1, n2, n3, n4⟩ (by rw [List.size_toArray]; exact hsz) hF fun D h' tk c hD hDe hD' hk => ?_
  have hitL := (N _ hit).2
  refine h D h' tk c ⟨F.ns.at' fun o e => hk _ o (Ne.symm hitL.1) e, fun b o e => hk b o (fun q => by rw [q, hitL.2] at e; cases e) (F.keep b o e), F.above⟩ (fun p hp => ?_) fun p hp => by rw [hDe]; exact news_lt N p (hkeep p hp).1
  rcases List.mem_cons.mp hp with rfl | hp
  · exact ⟨by simpa using hD', fr_off F hD⟩
  · exact ⟨hk _ _ (hkeep p hp).2 (N p (hkeep p hp).1).1, (N p (hkeep p hp).1).2⟩
end
end SM1
section SZ1
open PySem PySem.W PyProof.Rows PySem.Calls
set_option Elab.async false
set_option maxRecDepth 100000
set_option maxHeartbeats 3200000
noncomputable abbrev zipObj (f0 : Value) (b : Bool) (TI TO : Addr) : Obj := { cls := .type "zip", dict := none, data := .fields #[f0, .bool b, .bool false, .ref TI, .ref TO], slots := #[] }
noncomputable abbrev pairObj (a b : Value) : Obj := { cls := .type "tuple", data := .seq #[a, b] }
noncomputable abbrev sgn (c : Nat) : Str := ⟨#[c]⟩
structure ZApart (z TI TO i1 i2 : Addr) : Prop where
  TIz : TI ≠ z
  TOz : TO ≠ z
  i1z : i1 ≠ z
  i2z : i2 ≠ z
  TITO : TI ≠ TO
  TIi1 : TI ≠ i1
  TIi2 : TI ≠ i2
  TOi1 : TO ≠ i1
  TOi2 : TO ≠ i2
  i12 : i1 ≠ i2
section
variable {prog : Program} {w : World} {A : Around} {E : Value → Shared → Prop} {s : Shared} {z TI TO i1 i2 T : Addr} {x y : Str} {t u : Tok} {k : Nat} {c1 c2 : Nat} {a b : Value}
theorem zs_first {Q : Value → Shared → Prop} (D : ZApart z TI TO i1 i2) (hz : s.heap.get? z = some (zipObj .none false TI TO)) (hTI : s.heap.get? TI = some (pairObj (.ref i1) (.ref i2))) (hTO : s.heap.get? TO = some (pairObj a b))
    (h1 : s.heap.IsStrIter i1 "str_ascii_iterator" x t k) (h2 : s.heap.IsStrIter i2 "str_ascii_iterator" y u k) (hx : x.cps[k]? = some c1) (hy : y.cps[k]? = some c2)
    (hQ : ∀ h' t1 t2 tk, h'.get? z = some (zipObj (rawInt s.heap.objs.size) false TI TO) → h'.get? TO = some (pairObj (.str (sgn c1) t1) (.str (sgn c2) t2)) → h'.IsStrIter i1 "str_ascii_iterator" x t (k + 1) → h'.IsStrIter i2 "str_ascii_iterator" y u (k + 1) →
      h'.get? s.heap.objs.size = some (pairObj (.str (sgn c1) t1) (.str (sgn c2) t2)) → (∀ c o, c ≠ z → c ≠ TO → c ≠ i1 → c ≠ i2 → s.heap.get? c = some o → h'.get? c = some o) → Q (.ref s.heap.objs.size) { s with heap := h', toks := tk }) :
    wpAny (model prog w) A (Builtin.«zip.__next__» ⟨[.ref z], []⟩) (fun fin s' => ∃ v, fin = .done (.ret v) ∧ Q v s') E s := by
  show wpAny _ _ (field (.ref z) 2 >>= _) _ _ _
  refine wpAny_bind (wpAny_field hz rfl (x := .bool false) rfl ?_)
  show wpAny _ _ (field (.ref z) 3 >>= _) _ _ _
  refine wpAny_bind (wpAny_field hz rfl (x := .ref TI) rfl ?_)
  refine wpAny_bind (wpAny_seqItems hTI rfl ?_)
  show wpAny _ _ (Builtin.SmallTypes.ownedTupleIsFree (.ref z) >>= _) _ _ _
  refine wpAny_bind ?_
  unfold Builtin.SmallTypes.ownedTupleIsFree
  refine wpAny_bind (wpAny_field hz rfl (x := .none) rfl (wpAny_pure ?_))
  simp only [if_true]
  refine wpAny_bind (wpAny_rule ?_)
  refine wpAny_bind (wpAny_field hz rfl (x := .ref TO) rfl ?_)
  refine wpAny_bind (wpAny_setField_rec hz (by simp) fun h₁ hz₁ hs₁ => ?_)
  replace hz₁ : h₁.get? z = some (zipObj .ellipsis false TI TO) := hz₁
  refine wpAny_bind ?_
  simp only [List.zipIdx_cons, List.zipIdx_nil, List.forIn_cons, List.forIn_nil]
  refine wpAny_bind (wpAny_bind (wpAny_onRaise ?_))
  show wpAny _ _ (Builtin.SmallTypes.nextOf (.ref i1) >>= _) _ _ _
  refine wpAny_bind (wpAny_nextOf_ascii_item (h1.extBut hs₁.extBut D.i1z) hx fun h₂ h1₂ hs₂ => wpAny_pure ?_)
  have hTO₂ : h₂.get? TO = some (pairObj a b) := hs₂.extBut _ _ D.TOi1 (hs₁.extBut _ _ D.TOz hTO)
  refine wpAny_bind (wpAny_seqItems hTO₂ rfl ?_)
  refine wpAny_bind (wpAny_updateSeq_pair hTO₂ fun h₃ hTO₃ hs₃ => ?_)
  replace hTO₃ : h₃.get? TO = some (pairObj (.str (sgn c1) s.toks) b) := hTO₃
  refine wpAny_bind (wpAny_letGo (wpAny_pure ?_))
  refine wpAny_bind (wpAny_bind (wpAny_onRaise ?_))
  show wpAny _ _ (Builtin.SmallTypes.nextOf (.ref i2) >>= _) _ _ _
  refine wpAny_bind (wpAny_nextOf_ascii_item (((h2.extBut hs₁.extBut D.i2z).extBut hs₂.extBut D.i12.symm).extBut hs₃.extBut D.TOi2.symm) hy fun h₄ h2₄ hs₄ => wpAny_pure ?_)
  have hTO₄ : h₄.get? TO = some (pairObj (.str (sgn c1) s.toks) b) := hs₄.extBut _ _ D.TOi2 hTO₃
  refine wpAny_bind (wpAny_seqItems hTO₄ rfl ?_)
  refine wpAny_bind (wpAny_updateSeq_pair hTO₄ fun h₅ hTO₅ hs₅ => ?_)
  replace hTO₅ : h₅.get? TO = some (pairObj (.str (sgn c1) s.toks) (.str (sgn c2) (s.toks + 1))) := hTO₅
  refine wpAny_bind (wpAny_letGo (wpAny_pure (wpAny_pure ?_)))
  refine wpAny_bind (wpAny_seqItems hTO₅ rfl ?_)
  refine wpAny_bind (wpAny_newTuple ?_)
  have hsz : h₅.objs.size = s.heap.objs.size := by rw [hs₅.1, hs₄.1, hs₃.1, hs₂.1, hs₁.1]
  have hz₅ : h₅.get? z = some (zipObj .ellipsis false TI TO) := hs₅.extBut _ _ D.TOz.symm (hs₄.extBut _ _ D.i2z.symm (hs₃.extBut _ _ D.TOz.symm (hs₂.extBut _ _ D.i1z.symm hz₁)))
  have hk₅ : ∀ c o, c ≠ z → c ≠ TO → c ≠ i1 → c ≠ i2 → s.heap.get? c = some o → h₅.get? c = some o := fun c o e1 e2 e3 e4 e =>
    hs₅.extBut _ _ e2 (hs₄.extBut _ _ e4 (hs₃.extBut _ _ e2 (hs₂.extBut _ _ e3 (hs₁.extBut _ _ e1 e))))
  have h1₅ : h₅.IsStrIter i1 "str_ascii_iterator" x t (k + 1) := ((h1₂.extBut hs₃.extBut D.TOi1.symm).extBut hs₄.extBut D.i12).extBut hs₅.extBut D.TOi1.symm
  have h2₅ : h₅.IsStrIter i2 "str_ascii_iterator" y u (k + 1) := h2₄.extBut hs₅.extBut D.TOi2.symm
  have hzlt : z < h₅.objs.size := Heap.lt_size hz₅
  show wpAny _ _ (Builtin.SmallTypes.ownedTupleHandOut (.ref z) (.ref h₅.objs.size) >>= _) _ _ _
  refine wpAny_bind ?_
  unfold Builtin.SmallTypes.ownedTupleHandOut
  have hz₆ : (h₅.push (pairObj (.str (sgn c1) s.toks) (.str (sgn c2) (s.toks + 1)))).get? z = some (zipObj .ellipsis false TI TO) := Heap.get?_push_of_some _ hz₅
  refine wpAny_bind (wpAny_setField_rec hz₆ (by simp) fun h₇ hz₇ hs₇ => ?_)
  replace hz₇ : h₇.get? z = some (zipObj (rawInt h₅.objs.size) false TI TO) := hz₇
  refine wpAny_setField_rec hz₇ (by simp) fun h₈ hz₈ hs₈ => ?_
  replace hz₈ : h₈.get? z = some (zipObj (rawInt h₅.objs.size) false TI TO) := hz₈
  have up : ∀ c o, c ≠ z → h₅.get? c = some o → h₈.get? c = some o := fun c o e1 e => hs₈.extBut _ _ e1 (hs₇.extBut _ _ e1 (Heap.get?_push_of_some _ e))
  have hT₈ : h₈.get? h₅.objs.size = some (pairObj (.str (sgn c1) s.toks) (.str (sgn c2) (s.toks + 1))) := hs₈.extBut _ _ (Nat.ne_of_gt hzlt) (hs₇.extBut _ _ (Nat.ne_of_gt hzlt) (Heap.get?_push_size _ rfl))
  rw [hsz] at hz₈ hT₈
  refine wpAny_pure ⟨_, rfl, ?_⟩
  show Q (.ref h₅.objs.size) _
  rw [hsz]
  exact hQ h₈ _ _ _ hz₈ (up _ _ D.TOz hTO₅) (h1₅.extBut (fun c o hc e => up c o hc e) D.i1z) (h2₅.extBut (fun c o hc e => up c o hc e) D.i2z) hT₈ fun c o e1 e2 e3 e4 e => up c o e1 (hk₅ c o e1 e2 e3 e4 e)
theorem zs_busy {f1 : Bool} {Q : Bool → Shared → Prop} (hz : s.heap.get? z = some (zipObj (rawInt T) f1 TI TO)) (hT : ∃ o, s.heap.get? T = some o)
    (hQ : ∀ h' f2, h'.get? z = some (zipObj (rawInt T) f2 TI TO) → Heap.SameBut z s.heap h' → Q false { s with heap := h' }) : wpAny (model prog w) A (Builtin.SmallTypes.ownedTupleIsFree (.ref z)) Q E s := by
  obtain ⟨oT, hT⟩ := hT
  unfold Builtin.SmallTypes.ownedTupleIsFree
  refine wpAny_bind (wpAny_field hz rfl (x := rawInt T) rfl ?_)
  show wpAny _ _ (loadIfAlive ((T : Int).toNat) >>= _) _ _ _
  refine wpAny_bind (kdx_alive (o := oT) (by simpa using hT) ?_)
  refine KFB.if_not rfl ?_
  refine wpAny_bind (wpAny_field hz rfl (x := .bool f1) rfl ?_)
  cases f1 with
  | true =>
    refine KFB.if_not (by decide) ?_
    exact wpAny_pure (hQ _ true hz (Heap.SameBut.refl _ _))
  | false =>
    refine KFB.if_so (by decide) ?_
    refine wpAny_bind (wpAny_setField_rec hz (by simp) fun h₁ hz₁ hs₁ => ?_)
    exact wpAny_pure (hQ h₁ true hz₁ hs₁)
theorem zs_later {f1 : Bool} {Q : Value → Shared → Prop} (D : ZApart z TI TO i1 i2) (hz : s.heap.get? z = some (zipObj (rawInt T) f1 TI TO)) (hT : ∃ o, s.heap.get? T = some o) (hTI : s.heap.get? TI = some (pairObj (.ref i1) (.ref i2)))
    (h1 : s.heap.IsStrIter i1 "str_ascii_iterator" x t k) (h2 : s.heap.IsStrIter i2 "str_ascii_iterator" y u k) (hx : x.cps[k]? = some c1) (hy : y.cps[k]? = some c2)
    (hQ : ∀ h' t1 t2 tk f2, h'.get? z = some (zipObj (rawInt T) f2 TI TO) → h'.IsStrIter i1 "str_ascii_iterator" x t (k + 1) → h'.IsStrIter i2 "str_ascii_iterator" y u (k + 1) →
      h'.get? s.heap.objs.size = some (pairObj (.str (sgn c1) t1) (.str (sgn c2) t2)) → (∀ c o, c ≠ z → c ≠ i1 → c ≠ i2 → s.heap.get? c = some o → h'.get? c = some o) → Q (.ref s.heap.objs.size) { s with heap := h', toks := tk }) :
    wpAny (model prog w) A (Builtin.«zip.__next__» ⟨[.ref z], []⟩) (fun fin s' => ∃ v, fin = .done (.ret v) ∧ Q v s') E s := by
  show wpAny _ _ (field (.ref z) 2 >>= _) _ _ _
  refine wpAny_bind (wpAny_field hz rfl (x := .bool false) rfl ?_)
  show wpAny _ _ (field (.ref z) 3 >>= _) _ _ _
  refine wpAny_bind (wpAny_field hz rfl (x := .ref TI) rfl ?_)
  refine wpAny_bind (wpAny_seqItems hTI rfl ?_)
  show wpAny _ _ (Builtin.SmallTypes.ownedTupleIsFree (.ref z) >>= _) _ _ _
  refine wpAny_bind (zs_busy hz hT fun h₁ f2 hz₁ hs₁ => ?_)
  simp only [Bool.false_eq_true, if_false, ← Array.forIn_toList, List.forIn_cons, List.forIn_nil]
  refine wpAny_bind ?_
  refine wpAny_bind (wpAny_bind (wpAny_holding ?_))
  show wpAny _ _ (Builtin.SmallTypes.nextOf (.ref i1) >>= _) _ _ _
  refine wpAny_bind (wpAny_nextOf_ascii_item (h1.extBut hs₁.extBut D.i1z) hx fun h₂ h1₂ hs₂ => wpAny_pure ?_)
  refine wpAny_pure ?_
  refine wpAny_bind (wpAny_bind (wpAny_holding ?_))
  show wpAny _ _ (Builtin.SmallTypes.nextOf (.ref i2) >>= _) _ _ _
  refine wpAny_bind (wpAny_nextOf_ascii_item ((h2.extBut hs₁.extBut D.i2z).extBut hs₂.extBut D.i12.symm) hy fun h₃ h2₃ hs₃ => wpAny_pure ?_)
  refine wpAny_pure ?_
  refine wpAny_pure ?_
  refine wpAny_bind (wpAny_newTuple (hsz := by show 2 ≤ sizeLine; rw [sizeLine_eq]; decide) ?_)
  have hsz : h₃.objs.size = s.heap.objs.size := by rw [hs₃.1, hs₂.1, hs₁.1]
  have hz₃ : h₃.get? z = some (zipObj (rawInt T) f2 TI TO) := hs₃.extBut _ _ D.i2z.symm (hs₂.extBut _ _ D.i1z.symm hz₁)
  refine wpAny_pure ⟨_, rfl, ?_⟩
  show Q (.ref h₃.objs.size) _
  have up : ∀ c o, h₃.get? c = some o → (h₃.push (pairObj (.str (sgn c1) s.toks) (.str (sgn c2) (s.toks + 1)))).get? c = some o := fun c o e => Heap.get?_push_of_some _ e
  have hp : (h₃.push (pairObj (.str (sgn c1) s.toks) (.str (sgn c2) (s.toks + 1)))).get? h₃.objs.size = some (pairObj (.str (sgn c1) s.toks) (.str (sgn c2) (s.toks + 1))) := Heap.get?_push_size _ rfl
  rw [hsz] at hp ⊢
  exact hQ _ _ _ _ f2 (up _ _ hz₃) ((h1₂.extBut hs₃.extBut D.i12).extBut (fun c o hc e => up c o e) D.i1z) (h2₃.extBut (b := z) (fun c o hc e => up c o e) D.i2z) hp
    fun c o e1 e2 e3 e => up _ _ (hs₃.extBut _ _ e3 (hs₂.extBut _ _ e2 (hs₁.extBut _ _ e1 e)))
theorem zs_end {f1 : Bool} {Q : Fin → Shared → Prop} (hh : A.handled = none) (D : ZApart z TI TO i1 i2) (hz : s.heap.get? z = some (zipObj (rawInt T) f1 TI TO)) (hT : ∃ o, s.heap.get? T = some o) (hTI : s.heap.get? TI = some (pairObj (.ref i1) (.ref i2)))
    (h1 : s.heap.IsStrIter i1 "str_ascii_iterator" x t k) (h2 : s.heap.IsStrIter i2 "str_ascii_iterator" y u k) (hend : x.cps[k]? = none ∨ y.cps[k]? = none)
    (hE : ∀ h' e tk, (∀ c o, c ≠ z → c ≠ i1 → c ≠ i2 → s.heap.get? c = some o → h'.get? c = some o) → (∃ o, h'.get? e = some o ∧ o.cls = .type "StopIteration") → E (.ref e) { s with heap := h', toks := tk }) :
    wpAny (model prog w) A (Builtin.«zip.__next__» ⟨[.ref z], []⟩) Q E s := by
  show wpAny _ _ (field (.ref z) 2 >>= _) _ _ _
  refine wpAny_bind (wpAny_field hz rfl (x := .bool false) rfl ?_)
  show wpAny _ _ (field (.ref z) 3 >>= _) _ _ _
  refine wpAny_bind (wpAny_field hz rfl (x := .ref TI) rfl ?_)
  refine wpAny_bind (wpAny_seqItems hTI rfl ?_)
  show wpAny _ _ (Builtin.SmallTypes.ownedTupleIsFree (.ref z) >>= _) _ _ _
  refine wpAny_bind (zs_busy hz hT fun h₁ f2 hz₁ hs₁ => ?_)
  simp only [Bool.false_eq_true, if_false, ← Array.forIn_toList, List.forIn_cons, List.forIn_nil]
  refine wpAny_bind ?_
  refine wpAny_bind (wpAny_bind (wpAny_holding ?_))
  show wpAny _ _ (Builtin.SmallTypes.nextOf (.ref i1) >>= _) _ _ _
  cases hx : x.cps[k]? with
  | none =>
    refine wpAny_bind (wpAny_nextOf_ascii_end hh (h1.extBut hs₁.extBut D.i1z) hx fun h₂ e hs₂ he => ?_)
    exact hE h₂ e _ (fun c o e1 e2 e3 e => hs₂ _ _ e2 (hs₁.extBut _ _ e1 e)) he
  | some c1 =>
    have hy : y.cps[k]? = none := by rcases hend with h | h; rw [hx] at h; cases h; exact h
    refine wpAny_bind (wpAny_nextOf_ascii_item (h1.extBut hs₁.extBut D.i1z) hx fun h₂ h1₂ hs₂ => wpAny_pure ?_)
    refine wpAny_pure ?_
    refine wpAny_bind (wpAny_bind (wpAny_holding ?_))
    show wpAny _ _ (Builtin.SmallTypes.nextOf (.ref i2) >>= _) _ _ _
    refine wpAny_bind (wpAny_nextOf_ascii_end hh ((h2.extBut hs₁.extBut D.i2z).extBut hs₂.extBut D.i12.symm) hy fun h₃ e hs₃ he => ?_)
    exact hE h₃ e _ (fun c o e1 e2 e3 e => hs₃ _ _ e3 (hs₂.extBut _ _ e2 (hs₁.extBut _ _ e1 e))) he
/-- pyNext forms -/
theorem pn_first {Q : Option Value → Shared → Prop} (D : ZApart z TI TO i1 i2) (hz : s.heap.get? z = some (zipObj .none false TI TO)) (hTI : s.heap.get? TI = some (pairObj (.ref i1) (.ref i2))) (hTO : s.heap.get? TO = some (pairObj a b))
    (h1 : s.heap.IsStrIter i1 "str_ascii_iterator" x t k) (h2 : s.heap.IsStrIter i2 "str_ascii_iterator" y u k) (hx : x.cps[k]? = some c1) (hy : y.cps[k]? = some c2)
    (hQ : ∀ h' t1 t2 tk, h'.get? z = some (zipObj (rawInt s.heap.objs.size) false TI TO) → h'.get? TO = some (pairObj (.str (sgn c1) t1) (.str (sgn c2) t2)) → h'.IsStrIter i1 "str_ascii_iterator" x t (k + 1) → h'.IsStrIter i2 "str_ascii_iterator" y u (k + 1) →
      h'.get? s.heap.objs.size = some (pairObj (.str (sgn c1) t1) (.str (sgn c2) t2)) → (∀ c o, c ≠ z → c ≠ TO → c ≠ i1 → c ≠ i2 → s.heap.get? c = some o → h'.get? c = some o) → Q (some (.ref s.heap.objs.size)) { s with heap := h', toks := tk }) :
    wpAny (model prog w) A (pyNext (.ref z)) Q E s := by
  have hT : s.TypeIs (.ref z) "zip" := ⟨_, hz, rfl⟩
  unfold pyNext
  exact wpAny_bind (wpAny_attempt (wpAny_callSpecial?_slot (name := Str.ofString "__next__") hT F.slot_zip_next
    (wpAny_call_entry F.slot_zip_next hT F.entry_zip_next
      (zs_first D hz hTI hTO h1 h2 hx hy fun h' t1 t2 tk a1 a2 a3 a4 a5 a6 => wpAny_pure (hQ h' t1 t2 tk a1 a2 a3 a4 a5 a6)) (F.args_zip_next_1 _))))
theorem pn_later {f1 : Bool} {Q : Option Value → Shared → Prop} (D : ZApart z TI TO i1 i2) (hz : s.heap.get? z = some (zipObj (rawInt T) f1 TI TO)) (hTt : ∃ o, s.heap.get? T = some o) (hTI : s.heap.get? TI = some (pairObj (.ref i1) (.ref i2)))
    (h1 : s.heap.IsStrIter i1 "str_ascii_iterator" x t k) (h2 : s.heap.IsStrIter i2 "str_ascii_iterator" y u k) (hx : x.cps[k]? = some c1) (hy : y.cps[k]? = some c2)
    (hQ : ∀ h' t1 t2 tk f2, h'.get? z = some (zipObj (rawInt T) f2 TI TO) → h'.IsStrIter i1 "str_ascii_iterator" x t (k + 1) → h'.IsStrIter i2 "str_ascii_iterator" y u (k + 1) →
      h'.get? s.heap.objs.size = some (pairObj (.str (sgn c1) t1) (.str (sgn c2) t2)) → (∀ c o, c ≠ z → c ≠ i1 → c ≠ i2 → s.heap.get? c = some o → h'.get? c = some o) → Q (some (.ref s.heap.objs.size)) { s with heap := h', toks := tk }) :
    wpAny (model prog w) A (pyNext (.ref z)) Q E s := by
  have hT : s.TypeIs (.ref z) "zip" := ⟨_, hz, rfl⟩
  unfold pyNext
  exact wpAny_bind (wpAny_attempt (wpAny_callSpecial?_slot (name := Str.ofString "__next__") hT F.slot_zip_next
    (wpAny_call_entry F.slot_zip_next hT F.entry_zip_next
      (zs_later D hz hTt hTI h1 h2 hx hy fun h' t1 t2 tk f2 a1 a2 a3 a4 a5 => wpAny_pure (hQ h' t1 t2 tk f2 a1 a2 a3 a4 a5)) (F.args_zip_next_1 _))))
theorem pn_end {f1 : Bool} {Q : Option Value → Shared → Prop} (hh : A.handled = none) (D : ZApart z TI TO i1 i2) (hz : s.heap.get? z = some (zipObj (rawInt T) f1 TI TO)) (hTt : ∃ o, s.heap.get? T = some o) (hTI : s.heap.get? TI = some (pairObj (.ref i1) (.ref i2)))
    (h1 : s.heap.IsStrIter i1 "str_ascii_iterator" x t k) (h2 : s.heap.IsStrIter i2 "str_ascii_iterator" y u k) (hend : x.cps[k]? = none ∨ y.cps[k]? = none)
    (hQ : ∀ h' tk, (∀ c o, c ≠ z → c ≠ i1 → c ≠ i2 → s.heap.get? c = some o → h'.get? c = some o) → Q none { s with heap := h', toks := tk }) :
    wpAny (model prog w) A (pyNext (.ref z)) Q E s := by
  have hT : s.TypeIs (.ref z) "zip" := ⟨_, hz, rfl⟩
  unfold pyNext
  refine wpAny_bind (wpAny_attempt (wpAny_callSpecial?_slot (name := Str.ofString "__next__") hT F.slot_zip_next
    (wpAny_call_entry F.slot_zip_next hT F.entry_zip_next (zs_end hh D hz hTt hTI h1 h2 hend fun h' e tk hk he => ?_) (F.args_zip_next_1 _))))
  obtain ⟨o, ho, hc⟩ := he
  refine wpAny_bind (wpAny_isInstance (T := "StopIteration") (b := true) ⟨o, ho, hc⟩ isSubtype_stop ?_)
  exact wpAny_pure (hQ _ _ hk)
theorem pi_zip {f0 : Value} {f1 : Bool} {Q : Value → Shared → Prop} (hz : s.heap.get? z = some (zipObj f0 f1 TI TO)) (h : Q (.ref z) s) : wpAny (model prog w) A (pyIter (.ref z)) Q E s := by
  have hT : s.TypeIs (.ref z) "zip" := ⟨_, hz, rfl⟩
  refine wpAny_pyIter_slot hT F.slot_zip_iter (wpAny_call_entry F.slot_zip_iter hT F.entry_zip_iter ?_ (F.args_zip_iter_1 _))
  show wpAny _ _ (ret (.ref z)) _ _ s
  exact wpAny_pure ⟨_, rfl, "zip", _, hT, F.slot_zip_next.lookup, h⟩
end
end SZ1
section SQ3
open PySem PySem.W PyProof.Rows PySem.Calls
set_option Elab.async false
set_option maxRecDepth 100000
set_option maxHeartbeats 1600000
section
variable {prog : Program} {w : World} {A : Around} {E : Value → Shared → Prop} {s : Shared} {h₀ : Heap} {L : Addr} {m : Str → Option Value} {news : List (Addr × Obj)} {Q : Value → Shared → Prop}
/-- iter of a list -/
theorem k_iter {b : Addr} {its : List Value} {k : Nat} (F : Fr h₀ L s.heap m) (N : News h₀ L s.heap news) (hm : (b, W.listOf its.toArray k) ∈ news)
    (h : ∀ I h', Fr h₀ L h' m → News h₀ L h' ((I, liObj b 0) :: news) → (∀ p ∈ news, p.1 < I) → Q (.ref I) { s with heap := h' }) : wpAny (model prog w) A (call (.builtin "iter") [.ref b]) Q E s := by
  refine call_function_entry (by decide +kernel) (by decide +kernel) kdk_entry_iter (kdk_args_iter _) ?_
  unfold Builtin.«iter»
  refine wpAny_bind (m := someArgs "iter" 1 2 _) (wpAny_of_eq (a := [Value.ref b]) (by first | rfl | kernel_rfl!) ?_)
  show wpAny _ _ (pyIter (.ref b) >>= _) _ _ _
  refine wpAny_bind (wpAny_pyIter_list ⟨_, (N _ hm).1, rfl, _, rfl⟩ ?_)
  exact wpAny_pure ⟨_, rfl, h _ _ (F.push _) (News.push F N _ rfl) (fun q hq => Heap.lt_size (N q hq).1)⟩
noncomputable def LiIs (o : Obj) (b : Addr) (i : Nat) : Prop := o.cls = .type "list_iterator" ∧ o.data = .fields #[.ref b, .int i 0]
theorem k_next {it b : Addr} {io : Obj} {g : Obj → List (Addr × Obj)} {its : List Value} {k i : Nat} {x : Value} (F : Fr h₀ L s.heap m) (N : News h₀ L s.heap news) (U : UpdF it io news g) (hi : LiIs io b i) (hp : (b, W.listOf its.toArray k) ∈ news) (hx : its[i]? = some x)
    (h : ∀ h' o', Fr h₀ L h' m → News h₀ L h' (g o') → LiIs o' b (i + 1) → Q x { s with heap := h' }) :
    wpAny (model prog w) A (call (.builtin "next") [.ref it]) Q E s := by
  obtain ⟨pre, post, hl, hg, a, b'⟩ := U.split
  have hmem : (it, io) ∈ news := by rw [hl]; exact List.mem_append_right _ (.head _)
  have hm := N (it, io) hmem
  have hit : s.heap.IsListIter it b i := ⟨_, hm.1, hi.1, hi.2⟩
  refine call_function_entry (by decide +kernel) (by decide +kernel) kdk_entry_next (kdk_args_next _) ?_
  unfold Builtin.«next»
  refine wpAny_bind (m := someArgs "next" 1 2 _) (wpAny_of_eq (a := [Value.ref it]) (by first | rfl | kernel_rfl!) ?_)
  dsimp only
  refine wpAny_bind (wpAny_specialOf (name := Str.ofString "__next__") hit.typeIs slot_listiter_next.lookup ?_)
  refine wpAny_ite_split (fun hab => absurd hab (by decide)) (fun _ => ?_)
  refine wpAny_bind (wpAny_callSpecial?_slot (name := Str.ofString "__next__") hit.typeIs slot_listiter_next (wpAny_listnext_item hit ⟨_, (N _ hp).1, rfl, _, rfl⟩ (by simpa using hx) fun h' hit' hs => ?_))
  obtain ⟨o', ho', hc', hd'⟩ := hit'
  exact wpAny_pure ⟨_, rfl, h h' o' (F.change hs hm.2.1 hm.2.2) (hg o' ▸ (show News h₀ L s.heap (pre ++ (it, io) :: post) from hl ▸ N).setIn a b' hs ho') ⟨hc', hd'⟩⟩
end
end SQ3
section SQ4
open PySem PySem.W PyProof.Rows PySem.Calls
set_option Elab.async false
set_option maxRecDepth 100000
set_option maxHeartbeats 1600000
/-- one turn of reduce's loop -/
inductive RedPost (h₀ : Heap) (L I : Addr) (oI : Obj) (news : Led) (x y : Str) (m₀ : Str → Option Value) (Rel : Led → Value → Prop) (s : Shared) (f : Flow) (s₂ : Shared) : Prop
  | mk (hf : f = .next ∨ f = .cont) (h' : Heap) (tk' : Nat) (m' : Str → Option Value) (v' : Value) (tl : Led) (e : s₂ = { s with heap := h', toks := tk' }) (F : Fr h₀ L h' m') (N : News h₀ L h' (((I, oI) :: news) ++ tl)) (O : Over ((I, oI) :: news) tl) (hv : m' y = some v') (hz : ∀ z, z ≠ x → z ≠ y → m' z = m₀ z) (hR : Rel (news ++ tl) v') : RedPost h₀ L I oI news x y m₀ Rel s f s₂
theorem two_names {x y : Str} {a v : Value} {m₁ m₀ : Str → Option Value} (h1 : m₁ y = some v) (h2 : ∀ z, z ≠ x → z ≠ y → m₁ z = m₀ z) : (fun z => if z = x then some a else m₁ z) = fun z => if z = x then some a else if z = y then some v else m₀ z := by
  funext z
  by_cases hx : z = x
  · rw [if_pos hx, if_pos hx]
  · rw [if_neg hx, if_neg hx]
    by_cases hy : z = y
    · rw [if_pos hy, hy, h1]
    · rw [if_neg hy, h2 z hx hy]
theorem RedPost.intro {h₀ : Heap} {L I : Addr} {oI : Obj} {news : Led} {x y : Str} {m₀ m' : Str → Option Value} {Rel : Led → Value → Prop} {s : Shared} {h' : Heap} {tk' : Nat} {v' : Value} {tl : Led}
    (F : Fr h₀ L h' m') (N : News h₀ L h' (((I, oI) :: news) ++ tl)) (O : Over ((I, oI) :: news) tl) (hv : m' y = some v') (hz : ∀ z, z ≠ x → z ≠ y → m' z = m₀ z) (hR : Rel (news ++ tl) v') : RedPost h₀ L I oI news x y m₀ Rel s .next { s with heap := h', toks := tk' } :=
  ⟨.inl rfl, h', tk', m', v', tl, rfl, F, N, O, hv, hz, hR⟩
section
variable {prog : Program} {w : World} {A : Around} {E : Value → Shared → Prop} {s : Shared} {env : Env} {h₀ : Heap} {x y : Str} {body : List Stmt} {Q : Flow → Shared → Prop}
theorem red_loop {I b : Addr} {o : Obj} {its : List Value} {k : Nat} {news : Led} {m₀ : Str → Option Value} {v0 : Value} (hxy : y ≠ x) (hh : A.handled = none) (hn : 1 ≤ its.length) (F : Fr h₀ env.locals s.heap m₀) (N : News h₀ env.locals s.heap ((I, o) :: news)) (ho : LiIs o b 1)
    (hp : (b, W.listOf its.toArray k) ∈ news) (hI : ∀ p ∈ news, p.1 ≠ I) (Rel : Nat → Led → Value → Prop) (hR : Rel 1 news v0) (hv : m₀ y = some v0)
    (turn : ∀ i v e tl h tk oI, 1 ≤ i → its[i]? = some e → (∃ j, LiIs oI b j) → Over news tl → (∀ p ∈ news ++ tl, p.1 ≠ I) → Rel i (news ++ tl) v → Fr h₀ env.locals h (fun z => if z = x then some e else if z = y then some v else m₀ z) → News h₀ env.locals h ((I, oI) :: (news ++ tl)) →
      wpAny (model prog w) A (execs body env) (RedPost h₀ env.locals I oI (news ++ tl) x y m₀ (Rel (i + 1)) { s with heap := h, toks := tk }) E { s with heap := h, toks := tk })
    (done : ∀ v tl (u : Str → Option Value) h tk, Over news tl → Rel its.length (news ++ tl) v → Fr h₀ env.locals h (fun z => if z = x then u z else if z = y then some v else m₀ z) → News h₀ env.locals h (news ++ tl) → Q .next { s with heap := h, toks := tk }) :
    wpAny (model prog w) A (pyIter (.ref I)) (fun it s₂ => LoopAtV prog w A h₀ env x body Q E it s₂) E s := by
  have hIb : I ≠ b := fun e => hI _ hp e.symm
  have W₀ := Walks.list (prog := prog) (w := w) hh I b hIb.symm its.toArray
  have hst0 : s.heap.IsListIter I b 1 ∧ s.heap.IsList b its.toArray := ⟨⟨o, (N _ (.head _)).1, ho.1, ho.2⟩, ⟨_, (N _ (.tail _ hp)).1, rfl, _, rfl⟩⟩
  refine W₀.self 1 s _ _ hst0 ?_
  have W : Walks prog w A I [I, b] [I] (its.length - 1) (fun i v => its[i + 1]? = some v) (fun i h => h.IsListIter I b (i + 1) ∧ h.IsList b its.toArray) :=
    { sub := W₀.sub, frame := fun i h h' st hk => W₀.frame (i + 1) h h' st hk
      item := fun i s Q E hi st hQ => W₀.item (i + 1) s Q E (by rw [List.size_toArray]; omega) st fun v h' tk hP st' hk => hQ v h' tk (by simpa using hP) st' hk
      done := fun s Q E st hQ => W₀.done s Q E (by rw [List.size_toArray]; have e9 : its.length - 1 + 1 = its.length := by omega
                                                   rw [e9] at st; exact st) hQ
      self := fun i s Q E st hQ => W₀.self (i + 1) s Q E st hQ }
  have hL := N _ (.head _)
  let J : Nat → (Str → Option Value) → List (Addr × Obj) → Prop := fun i m₁ news₁ => ∃ v tl, news₁ = news ++ tl ∧ Over news tl ∧ m₁ y = some v ∧ (∀ z, z ≠ x → z ≠ y → m₁ z = m₀ z) ∧ Rel (i + 1) news₁ v
  refine ⟨I, [I, b], [I], its.length - 1, _, _, m₀, news, J, rfl, W, ?_, ?_, ?_, hst0, F, fun p hq => N p (.tail _ hq), ⟨v0, [], by simp, Over.nil, hv, fun _ _ _ => rfl, hR⟩, ?_, ?_⟩
  · intro hm
    rcases List.mem_cons.mp hm with e | hm
    · exact hL.2.1 e.symm
    · exact (N _ (.tail _ hp)).2.1 (List.mem_singleton.mp hm).symm
  · intro c hc
    rw [List.mem_singleton.mp hc]; exact hL.2.2
  · intro p hq hm
    exact hI p hq (List.mem_singleton.mp hm)
  · rintro i e m₁ news₁ s₁ own ⟨hh', tk', rfl⟩ hin hP ⟨v, tl, rfl, hO, hm1, hm2, hRel⟩ hoff hown1 hown2 hown3 hst F₁ N₁
    obtain ⟨oI, hoI, hoc, hod⟩ := id hst.1
    have hIown : (I, oI) ∈ own := hown3 I (by simp) hL.2.2 oI hoI
    have Nn : News h₀ env.locals hh' (news ++ tl) := fun p hq => N₁ p (List.mem_append.mpr (.inr hq))
    have NI : News h₀ env.locals hh' ((I, oI) :: (news ++ tl)) := fun p hq => by
      rcases List.mem_cons.mp hq with rfl | hq
      · exact N₁ _ (List.mem_append.mpr (.inl hIown))
      · exact Nn p hq
    have hoffI : ∀ p ∈ news ++ tl, p.1 ≠ I := fun p hq e => hoff p hq (by rw [e]; simp)
    have e9 := two_names (m₀ := m₀) (a := e) hm1 hm2
    rw [e9] at F₁
    refine wpAny_mono (turn (i + 1) v e tl hh' tk' oI (by omega) hP ⟨_, hoc, hod⟩ hO hoffI hRel F₁ NI) (fun f s₂ hf => ?_) fun _ _ e => e
    obtain ⟨hfl, h', tk2, m', v', tl', rfl, F', N', O', hv', hz', hR'⟩ := hf
    have fin : LoopStepU h₀ env.locals [I] own (J (i + 1)) { s with heap := hh', toks := tk' } .next { s with heap := h', toks := tk2 } := by
      refine ⟨rfl, h', tk2, m', news ++ tl ++ tl', rfl, F', fun p hq => ?_, fun p hq hm => ?_, v', tl ++ tl', by simp, fun q hq p hp' => ?_, hv', hz', hR'⟩
      · rcases List.mem_append.mp hq with hq | hq
        · have hg := hown2 p hq
          have hfp := hown1 p hq
          simp only [List.mem_cons, List.not_mem_nil, or_false] at hfp
          rcases hfp with hfp | hfp
          · have : p = (I, oI) := by
              obtain ⟨p1, p2⟩ := p
              dsimp only at hfp hg
              subst hfp
              rw [hoI] at hg
              cases hg; rfl
            rw [this]; exact N' _ (List.mem_append.mpr (.inl (.head _)))
          · have hb := Nn _ (List.mem_append.mpr (.inl hp))
            have : p = (b, PySem.W.listOf its.toArray k) := by
              obtain ⟨p1, p2⟩ := p
              dsimp only at hfp hg
              subst hfp
              rw [hb.1] at hg
              cases hg; rfl
            rw [this]; exact N' _ (List.mem_append.mpr (.inl (.tail _ (List.mem_append.mpr (.inl hp)))))
        · rcases List.mem_append.mp hq with hq | hq
          · exact N' p (List.mem_append.mpr (.inl (.tail _ hq)))
          · exact N' p (List.mem_append.mpr (.inr hq))
      · have hm' := List.mem_singleton.mp hm
        rcases List.mem_append.mp hq with hq | hq
        · exact hoffI p hq hm'
        · exact O' (I, oI) (.head _) p hq hm'.symm
      · rcases List.mem_append.mp hp' with hp' | hp'
        · exact hO q hq p hp'
        · exact O' q (.tail _ (List.mem_append.mpr (.inl hq))) p hp'
    rcases hfl with rfl | rfl
    · exact .next fin
    · exact .cont fin
  · rintro h' tk m' news' F' N' hoff ⟨v, tl, rfl, hO, hm1, hm2, hRel⟩
    have en : its.length - 1 + 1 = its.length := by omega
    rw [en] at hRel
    refine done v tl m' h' tk hO hRel ?_ N'
    have e9 : (fun z => if z = x then m' z else if z = y then some v else m₀ z) = m' := by
      funext z
      by_cases h1 : z = x
      · simp [h1]
      · by_cases h2 : z = y
        · subst h2; simp [h1, hm1]
        · simp [h1, h2, hm2 z h1 h2]
    rw [e9]; exact F'
end
end SQ4
section SZ3
open PySem PySem.W PyProof.Rows PySem.Calls
set_option Elab.async false
set_option maxRecDepth 100000
set_option maxHeartbeats 3200000
noncomputable def SiIs (o : Obj) (x : Str) (t : Tok) (i : Nat) : Prop := o.cls = .type "str_ascii_iterator" ∧ o.data = .fields #[.str x t, .int i 0]
noncomputable abbrev Z5 (z TI TO i1 i2 : Addr) (f0 : Value) (f1 : Bool) (oTO o1 o2 : Obj) : Led := [(z, zipObj f0 f1 TI TO), (TO, oTO), (TI, pairObj (.ref i1) (.ref i2)), (i2, o2), (i1, o1)]
/-- one turn of reduce's loop over a zip -/
inductive ZipPost (h₀ : Heap) (L : Addr) (led : Led) (x y : Str) (m₀ : Str → Option Value) (v' : Int) (s : Shared) (f : Flow) (s₂ : Shared) : Prop
  | mk (hf : f = .next ∨ f = .cont) (h' : Heap) (tk' : Nat) (m' : Str → Option Value) (tv : Tok) (tl : Led) (e : s₂ = { s with heap := h', toks := tk' }) (F : Fr h₀ L h' m') (N : News h₀ L h' (led ++ tl)) (O : Over led tl) (hv : m' y = some (.int v' tv)) (hz : ∀ z, z ≠ x → z ≠ y → m' z = m₀ z) : ZipPost h₀ L led x y m₀ v' s f s₂
theorem ZipPost.intro {h₀ : Heap} {L : Addr} {led : Led} {x y : Str} {m₀ m' : Str → Option Value} {v' : Int} {s : Shared} {h' : Heap} {tk' : Nat} {tv : Tok} {tl : Led}
    (F : Fr h₀ L h' m') (N : News h₀ L h' (led ++ tl)) (O : Over led tl) (hv : m' y = some (.int v' tv)) (hz : ∀ z, z ≠ x → z ≠ y → m' z = m₀ z) : ZipPost h₀ L led x y m₀ v' s .next { s with heap := h', toks := tk' } :=
  ⟨.inl rfl, h', tk', m', tv, tl, rfl, F, N, O, hv, hz⟩
section
variable {prog : Program} {w : World} {A : Around} {E : Value → Shared → Prop} {s : Shared} {env : Env} {h₀ : Heap} {xn yn : Str} {body : List Stmt} {Q : Flow → Shared → Prop} {z TI TO i1 i2 : Addr} {x y : Str} {t u : Tok}
structure Zne (z TI TO i1 i2 : Addr) (l : Led) : Prop where
  all : ∀ p ∈ l, p.1 ≠ z ∧ p.1 ≠ TO ∧ p.1 ≠ TI ∧ p.1 ≠ i2 ∧ p.1 ≠ i1
noncomputable def zfold (step : Int → Nat → Nat → Int) (x y : Str) (i : Nat) : Int := (List.range i).foldl (fun v i => step v (x.cps.getD i 0) (y.cps.getD i 0)) 0
theorem zfold_succ (step : Int → Nat → Nat → Int) {x y : Str} {i c1 c2 : Nat} (e1 : x.cps[i]? = some c1) (e2 : y.cps[i]? = some c2) : step (zfold step x y i) c1 c2 = zfold step x y (i + 1) := by
  unfold zfold
  rw [List.range_succ, List.foldl_append]
  show _ = step _ _ _
  rw [Array.getD_eq_getD_getElem?, Array.getD_eq_getD_getElem?, e1, e2]; rfl
inductive ZInv (h₀ : Heap) (L : Addr) (xn yn : Str) (z TI TO i1 i2 : Addr) (x y : Str) (t u : Tok) (news : Led) (m₀ : Str → Option Value) (step : Int → Nat → Nat → Int) (s : Shared) (n k : Nat) (s' : Shared) : Prop
  | mk (i : Nat) (h' : Heap) (tk : Nat) (m' : Str → Option Value) (tl : Led) (tv : Tok) (f0 : Value) (f1 : Bool) (oTO o1 o2 : Obj) (e : s' = { s with heap := h', toks := tk }) (hi : i ≤ n) (hk : k = n + 1 - i) (F : Fr h₀ L h' m') (N : News h₀ L h' (Z5 z TI TO i1 i2 f0 f1 oTO o1 o2 ++ (news ++ tl))) (h1 : SiIs o1 x t i) (h2 : SiIs o2 y u i)
      (hf : (i = 0 ∧ f0 = .none ∧ f1 = false ∧ oTO = pairObj .none .none) ∨ (1 ≤ i ∧ ∃ (T : Addr) (oT : Obj), f0 = rawInt T ∧ (T, oT) ∈ news ++ tl)) (O : Over news tl) (Z : Zne z TI TO i1 i2 (news ++ tl)) (hm1 : m' yn = some (.int (zfold step x y i) tv)) (hm2 : ∀ q, q ≠ xn → q ≠ yn → m' q = m₀ q) : ZInv h₀ L xn yn z TI TO i1 i2 x y t u news m₀ step s n k s'
theorem z5_set {h₀ h₁ : Heap} {L z TI TO i1 i2 T : Addr} {f0 : Value} {f1 : Bool} {oTO o1 o2 oT : Obj} {news tl : Led} (a : h₁.get? z = some (zipObj f0 f1 TI TO) ∧ z ≠ L ∧ h₀.get? z = none) (b : h₁.get? TO = some oTO ∧ TO ≠ L ∧ h₀.get? TO = none) (c : h₁.get? TI = some (pairObj (.ref i1) (.ref i2)) ∧ TI ≠ L ∧ h₀.get? TI = none)
    (d : h₁.get? i2 = some o2 ∧ i2 ≠ L ∧ h₀.get? i2 = none) (e : h₁.get? i1 = some o1 ∧ i1 ≠ L ∧ h₀.get? i1 = none) (N : News h₀ L h₁ (news ++ tl)) (f : h₁.get? T = some oT ∧ T ≠ L ∧ h₀.get? T = none) : News h₀ L h₁ (Z5 z TI TO i1 i2 f0 f1 oTO o1 o2 ++ (news ++ (tl ++ [(T, oT)]))) := fun p hp => by
  rcases List.mem_append.mp hp with hp | hp
  · simp only [List.mem_cons, List.not_mem_nil, or_false] at hp
    rcases hp with rfl | rfl | rfl | rfl | rfl
    · exact a
    · exact b
    · exact c
    · exact d
    · exact e
  · rcases List.mem_append.mp hp with hp | hp
    · exact N p (List.mem_append.mpr (.inl hp))
    · rcases List.mem_append.mp hp with hp | hp
      · exact N p (List.mem_append.mpr (.inr hp))
      · rw [List.mem_singleton.mp hp]; exact f
theorem over_snoc {news tl : Led} {T : Addr} {oT : Obj} (O : Over news tl) (h : ∀ p ∈ news, p.1 ≠ T) : Over news (tl ++ [(T, oT)]) := fun q hq p hp => by
  rcases List.mem_append.mp hp with hp | hp
  · exact O q hq p hp
  · rw [List.mem_singleton.mp hp]; exact h q hq
theorem z_over_app {news tl tl3 : Led} (O : Over news tl) (O3 : ∀ q ∈ news, ∀ p ∈ tl3, q.1 ≠ p.1) : Over news (tl ++ tl3) := fun q hq p hp => (List.mem_append.mp hp).elim (O q hq p) (O3 q hq p)
theorem zne_snoc {z TI TO i1 i2 T : Addr} {oT : Obj} {news tl : Led} (Z : Zne z TI TO i1 i2 (news ++ tl)) (h : T ≠ z ∧ T ≠ TO ∧ T ≠ TI ∧ T ≠ i2 ∧ T ≠ i1) : Zne z TI TO i1 i2 (news ++ (tl ++ [(T, oT)])) := ⟨fun p hp => by
  rw [← List.append_assoc] at hp
  rcases List.mem_append.mp hp with hp | hp
  · exact Z.all p hp
  · rw [List.mem_singleton.mp hp]; exact h⟩
theorem zne_app {z TI TO i1 i2 : Addr} {news tl tl3 : Led} (Z : Zne z TI TO i1 i2 (news ++ tl)) (h : ∀ p ∈ tl3, p.1 ≠ z ∧ p.1 ≠ TO ∧ p.1 ≠ TI ∧ p.1 ≠ i2 ∧ p.1 ≠ i1) : Zne z TI TO i1 i2 (news ++ (tl ++ tl3)) := ⟨fun p hp => by
  rw [← List.append_assoc] at hp
  exact (List.mem_append.mp hp).elim (Z.all p) (h p)⟩
theorem zip_loop {R : Result → Shared → Prop} {px : Pos} {news : Led} {m₀ : Str → Option Value} {tv0 : Tok} (step : Int → Nat → Nat → Int) (hxy : yn ≠ xn) (hh : A.handled = none) (D : ZApart z TI TO i1 i2) (hn : 1 ≤ min x.cps.size y.cps.size)
    (hxl : env.kindOf xn = some .local) (hpl : (env.scope.kind == .class || (env.scope.kind == .module && env.locals != env.globals)) = false)
    (F : Fr h₀ env.locals s.heap m₀) {o1 o2 : Obj} (N : News h₀ env.locals s.heap (Z5 z TI TO i1 i2 .none false (pairObj .none .none) o1 o2 ++ news)) (ho1 : SiIs o1 x t 0) (ho2 : SiIs o2 y u 0) (hne : Zne z TI TO i1 i2 news) (hv : m₀ yn = some (.int 0 tv0))
    (turn : ∀ (i : Nat) (v : Int) (tv t1 t2 : Tok) (c1 c2 : Nat) (T : Addr) (tl : Led) h tk f0 f1 oTO o1 o2, x.cps[i]? = some c1 → y.cps[i]? = some c2 → Over news tl → Zne z TI TO i1 i2 (news ++ tl) → (T, pairObj (.str (sgn c1) t1) (.str (sgn c2) t2)) ∈ tl →
      Fr h₀ env.locals h (fun q => if q = xn then some (.ref T) else if q = yn then some (.int v tv) else m₀ q) → News h₀ env.locals h (Z5 z TI TO i1 i2 f0 f1 oTO o1 o2 ++ (news ++ tl)) →
      wpAny (model prog w) A (execs body env) (ZipPost h₀ env.locals (Z5 z TI TO i1 i2 f0 f1 oTO o1 o2 ++ (news ++ tl)) xn yn m₀ (step v c1 c2) { s with heap := h, toks := tk }) (notedBy (model prog w) A env fun e s' => R (.error e) s') { s with heap := h, toks := tk })
    (done : ∀ (tv : Tok) tl (uu : Str → Option Value) h tk, Over news tl → Fr h₀ env.locals h (fun q => if q = xn then uu q else if q = yn then some (.int (zfold step x y (min x.cps.size y.cps.size)) tv) else m₀ q) → News h₀ env.locals h (news ++ tl) → R (.ok .next) { s with heap := h, toks := tk }) :
    codeAny (model prog w) A (.forLoop (.Name xn px) (.ref z) body [] env) R s := by
  refine codeAny_forLoop_any (ZInv h₀ env.locals xn yn z TI TO i1 i2 x y t u news m₀ step s (min x.cps.size y.cps.size)) ?_ (min x.cps.size y.cps.size + 1)
    ⟨0, s.heap, s.toks, m₀, [], tv0, .none, false, _, o1, o2, rfl, Nat.zero_le _, rfl, F, by rw [List.append_nil]; exact N, ho1, ho2, .inl ⟨rfl, rfl, rfl, rfl⟩, Over.nil, by rw [List.append_nil]; exact hne, hv, fun _ _ _ => rfl⟩
  rintro k s' ⟨i, h', tk, m', tl, tv, f0, f1, oTO, o1, o2, rfl, hi, rfl, F', N', hs1, hs2, hf, hO, hZ, hm1, hm2⟩
  have gz := N' (z, zipObj f0 f1 TI TO) (.head _)
  have gTO := N' (TO, oTO) (.tail _ (.head _))
  have gTI := N' (TI, pairObj (.ref i1) (.ref i2)) (.tail _ (.tail _ (.head _)))
  have g2 := N' (i2, o2) (.tail _ (.tail _ (.tail _ (.head _))))
  have g1 := N' (i1, o1) (.tail _ (.tail _ (.tail _ (.tail _ (.head _)))))
  have it1 : h'.IsStrIter i1 "str_ascii_iterator" x t i := ⟨_, g1.1, hs1.1, hs1.2⟩
  have it2 : h'.IsStrIter i2 "str_ascii_iterator" y u i := ⟨_, g2.1, hs2.1, hs2.2⟩
  have keepF : ∀ h₁ : Heap, (∀ c o, c ≠ z → c ≠ TO → c ≠ i1 → c ≠ i2 → h'.get? c = some o → h₁.get? c = some o) → Fr h₀ env.locals h₁ m' := fun h₁ hk =>
    ⟨F'.ns.at' fun o e => hk _ o gz.2.1.symm gTO.2.1.symm g1.2.1.symm g2.2.1.symm e, fun b o e => hk b o (fun q => by rw [q, gz.2.2] at e; cases e) (fun q => by rw [q, gTO.2.2] at e; cases e) (fun q => by rw [q, g1.2.2] at e; cases e) (fun q => by rw [q, g2.2.2] at e; cases e) (F'.keep b o e), F'.above⟩
  have keepN : ∀ h₁ : Heap, (∀ c o, c ≠ z → c ≠ TO → c ≠ i1 → c ≠ i2 → h'.get? c = some o → h₁.get? c = some o) → News h₀ env.locals h₁ (news ++ tl) := fun h₁ hk p hp => by
    have e := N' p (List.mem_append.mpr (.inr hp))
    have d := hZ.all p hp
    exact ⟨hk _ _ d.1 d.2.1 d.2.2.2.2 d.2.2.2.1 e.1, e.2⟩
  by_cases hlt : i < min x.cps.size y.cps.size
  · have hx : x.cps[i]? = some x.cps[i] := by simp [show i < x.cps.size by omega]
    have hy : y.cps[i]? = some y.cps[i] := by simp [show i < y.cps.size by omega]
    -- what follows an item
    have next : ∀ (h₁ : Heap) (tk₁ : Nat) (t1 t2 : Tok) (f0' : Value) (f1' : Bool) (oTO' : Obj), h₁.get? z = some (zipObj f0' f1' TI TO) → h₁.get? TO = some oTO' → h₁.IsStrIter i1 "str_ascii_iterator" x t (i + 1) → h₁.IsStrIter i2 "str_ascii_iterator" y u (i + 1) →
        h₁.get? h'.objs.size = some (pairObj (.str (sgn x.cps[i]) t1) (.str (sgn y.cps[i]) t2)) → (∀ c o, c ≠ z → c ≠ TO → c ≠ i1 → c ≠ i2 → h'.get? c = some o → h₁.get? c = some o) → (∃ (T2 : Addr) (oT2 : Obj), f0' = rawInt T2 ∧ (T2, oT2) ∈ news ++ (tl ++ [(h'.objs.size, pairObj (.str (sgn x.cps[i]) t1) (.str (sgn y.cps[i]) t2))])) →
        wpAny (model prog w) A (letOwnedTupleGo (.Name xn px) (.ref z) (.ref h'.objs.size)) (fun _ s₁' => wpAny (model prog w) A (assign (.Name xn px) env (.ref h'.objs.size)) (fun _ s₂ => wpAny (model prog w) A (execs body env) (fun f s₃ => match f with
            | .next | .cont => ∃ m, m < min x.cps.size y.cps.size + 1 - i ∧ ZInv h₀ env.locals xn yn z TI TO i1 i2 x y t u news m₀ step s (min x.cps.size y.cps.size) m s₃
            | .brk => R (.ok .next) s₃
            | .ret v => R (.ok (.ret v)) s₃) (notedBy (model prog w) A env fun e s' => R (.error e) s') s₂) (notedBy (model prog w) A env fun e s' => R (.error e) s') s₁') (notedBy (model prog w) A env fun e s' => R (.error e) s') { s with heap := h₁, toks := tk₁ } := by
      intro h₁ tk₁ t1 t2 f0' f1' oTO' hz₁ hTO₁ hi1 hi2 hT₁ hk hf'
      obtain ⟨o1', ho1', ho1c, ho1d⟩ := hi1
      obtain ⟨o2', ho2', ho2c, ho2d⟩ := hi2
      have F₁ := keepF h₁ hk
      have N₁ := keepN h₁ hk
      have hTn := fr_off F' (none_size h')
      have hTI₁ : h₁.get? TI = some (pairObj (.ref i1) (.ref i2)) := hk _ _ D.TIz D.TITO D.TIi1 D.TIi2 gTI.1
      have lt5 : ∀ p ∈ Z5 z TI TO i1 i2 f0 f1 oTO o1 o2 ++ (news ++ tl), p.1 ≠ h'.objs.size := fun p hp => Nat.ne_of_lt (Heap.lt_size (N' p hp).1)
      let tl' : Led := tl ++ [(h'.objs.size, pairObj (.str (sgn x.cps[i]) t1) (.str (sgn y.cps[i]) t2))]
      have N₂ : News h₀ env.locals h₁ (Z5 z TI TO i1 i2 f0' f1' oTO' o1' o2' ++ (news ++ tl')) := z5_set ⟨hz₁, gz.2⟩ ⟨hTO₁, gTO.2⟩ ⟨hTI₁, gTI.2⟩ ⟨ho2', g2.2⟩ ⟨ho1', g1.2⟩ N₁ ⟨hT₁, hTn⟩
      have hO' : Over news tl' := over_snoc hO fun q hq => lt5 q (List.mem_append.mpr (.inr (List.mem_append.mpr (.inl hq))))
      have hZ' : Zne z TI TO i1 i2 (news ++ tl') := zne_snoc hZ ⟨(lt5 _ (.head _)).symm, (lt5 _ (.tail _ (.head _))).symm, (lt5 _ (.tail _ (.tail _ (.head _)))).symm, (lt5 _ (.tail _ (.tail _ (.tail _ (.head _))))).symm, (lt5 _ (.tail _ (.tail _ (.tail _ (.tail _ (.head _)))))).symm⟩
      refine wpAny_pure ?_
      refine wpAny_assign_Name (wpAny_storeName_local hxl F₁.ns (fun h₂ hn₂ hs₂ => ?_) hpl)
      have F₂ : Fr h₀ env.locals h₂ (fun q => if q = xn then some (.ref h'.objs.size) else if q = yn then some (.int (zfold step x y i) tv) else m₀ q) := by
        have e9 := two_names (m₀ := m₀) (a := Value.ref h'.objs.size) hm1 hm2
        rw [← e9]; exact F₁.set hn₂ hs₂
      have N₃ := N₂.set hs₂
      refine wpAny_mono (turn i _ tv t1 t2 _ _ h'.objs.size tl' h₂ _ f0' f1' oTO' o1' o2' hx hy hO' hZ' (List.mem_append.mpr (.inr (List.mem_singleton.mpr rfl))) F₂ N₃) (fun f s₃ hfp => ?_) fun _ _ e => e
      obtain ⟨hfl, h3, tk3, m3, tv3, tl3, rfl, F3, N3, O3, hv3, hz3⟩ := hfp
      have fin : ∃ m, m < min x.cps.size y.cps.size + 1 - i ∧ ZInv h₀ env.locals xn yn z TI TO i1 i2 x y t u news m₀ step s (min x.cps.size y.cps.size) m { s with heap := h3, toks := tk3 } := by
        refine ⟨min x.cps.size y.cps.size + 1 - (i + 1), by omega, i + 1, h3, tk3, m3, tl' ++ tl3, tv3, f0', f1', oTO', o1', o2', rfl, hlt, rfl, F3, by rw [← List.append_assoc news, ← List.append_assoc]; exact N3, ⟨ho1c, ho1d⟩, ⟨ho2c, ho2d⟩, .inr ⟨by omega, ?_⟩, ?_, ?_, ?_, hz3⟩
        · obtain ⟨T2, oT2, e, hm⟩ := hf'
          exact ⟨T2, oT2, e, by rw [← List.append_assoc]; exact List.mem_append.mpr (.inl hm)⟩
        · exact z_over_app hO' fun q hq p hp => O3 q (List.mem_append.mpr (.inr (List.mem_append.mpr (.inl hq)))) p hp
        · exact zne_app hZ' fun p hp => ⟨(O3 _ (.head _) p hp).symm, (O3 _ (.tail _ (.head _)) p hp).symm, (O3 _ (.tail _ (.tail _ (.head _))) p hp).symm, (O3 _ (.tail _ (.tail _ (.tail _ (.head _)))) p hp).symm, (O3 _ (.tail _ (.tail _ (.tail _ (.tail _ (.head _))))) p hp).symm⟩
        · rw [hv3, zfold_succ step hx hy]
      rcases hfl with rfl | rfl
      · exact fin
      · exact fin
    rcases hf with ⟨rfl, rfl, rfl, rfl⟩ | ⟨hi1, T, oT, rfl, hTm⟩
    · refine pn_first D gz.1 gTI.1 gTO.1 it1 it2 hx hy fun h₁ t1 t2 tk₁ b1 b2 b3 b4 b5 b6 => ?_
      exact next h₁ tk₁ t1 t2 _ _ _ b1 b2 b3 b4 b5 b6 ⟨_, pairObj (.str (sgn _) t1) (.str (sgn _) t2), rfl, List.mem_append_right _ (List.mem_append_right _ (List.mem_singleton.mpr rfl))⟩
    · refine pn_later D gz.1 ⟨oT, (N' _ (List.mem_append.mpr (.inr hTm))).1⟩ gTI.1 it1 it2 hx hy fun h₁ t1 t2 tk₁ f2 b1 b2 b3 b4 b5 => ?_
      exact next h₁ tk₁ t1 t2 _ _ _ b1 (b5 _ _ D.TOz D.TOi1 D.TOi2 gTO.1) b2 b3 b4 (fun c o e1 _ e3 e4 e => b5 c o e1 e3 e4 e) ⟨T, oT, rfl, by rw [← List.append_assoc]; exact List.mem_append.mpr (.inl hTm)⟩
  · have hie : i = min x.cps.size y.cps.size := by omega
    rcases hf with ⟨rfl, _⟩ | ⟨hi1, T, oT, rfl, hTm⟩
    · omega
    · refine pn_end hh D gz.1 ⟨oT, (N' _ (List.mem_append.mpr (.inr hTm))).1⟩ gTI.1 it1 it2 (by
        by_cases hxs : i < x.cps.size
        · right; exact Array.getElem?_eq_none (by omega)
        · left; exact Array.getElem?_eq_none (by omega)) fun h₁ tk₁ b5 => ?_
      refine wpAny_execs_nil ?_
      have hk : ∀ c o, c ≠ z → c ≠ TO → c ≠ i1 → c ≠ i2 → h'.get? c = some o → h₁.get? c = some o := fun c o e1 _ e3 e4 e => b5 c o e1 e3 e4 e
      refine done tv tl m' h₁ tk₁ hO ?_ (keepN h₁ hk)
      have e9 : (fun q => if q = xn then m' q else if q = yn then some (Value.int (zfold step x y (min x.cps.size y.cps.size)) tv) else m₀ q) = m' := by
        funext q
        by_cases h1 : q = xn
        · simp [h1]
        · by_cases h2 : q = yn
          · subst h2; simp [h1, hm1, hie]
          · simp [h1, h2, hm2 q h1 h2]
      rw [e9]; exact keepF h₁ hk
end
end SZ3
section SZ4
open PySem PySem.W PyProof.Rows PySem.Calls
set_option Elab.async false
set_option maxRecDepth 100000
set_option maxHeartbeats 3200000
section
variable {prog : Program} {w : World} {A : Around} {E : Value → Shared → Prop} {s : Shared} {env : Env} {h₀ : Heap} {xn yn : Str} {body : List Stmt} {Q : Flow → Shared → Prop}
/-- what a for over a zip of two texts needs -/
noncomputable def ZSrc (prog : Program) (w : World) (A : Around) (h₀ : Heap) (env : Env) (xn yn : Str) (body : List Stmt) (Q : Flow → Shared → Prop) (E : Value → Shared → Prop) (step : Int → Nat → Nat → Int) (xv : Value) (s₁ : Shared) : Prop :=
  ∃ (z TI TO i1 i2 : Addr) (x y : Str) (t u tv0 : Tok) (news : Led) (m₀ : Str → Option Value) (o1 o2 : Obj), xv = .ref z ∧ ZApart z TI TO i1 i2 ∧ 1 ≤ min x.cps.size y.cps.size ∧ Fr h₀ env.locals s₁.heap m₀ ∧ News h₀ env.locals s₁.heap (Z5 z TI TO i1 i2 .none false (pairObj .none .none) o1 o2 ++ news) ∧ SiIs o1 x t 0 ∧ SiIs o2 y u 0 ∧ Zne z TI TO i1 i2 news ∧ m₀ yn = some (.int 0 tv0) ∧
    (∀ (i : Nat) (v : Int) (tv t1 t2 : Tok) (c1 c2 : Nat) (T : Addr) (tl : Led) h tk f0 f1 oTO o1 o2, x.cps[i]? = some c1 → y.cps[i]? = some c2 → Over news tl → Zne z TI TO i1 i2 (news ++ tl) → (T, pairObj (.str (sgn c1) t1) (.str (sgn c2) t2)) ∈ tl →
      Fr h₀ env.locals h (fun q => if q = xn then some (.ref T) else if q = yn then some (.int v tv) else m₀ q) → News h₀ env.locals h (Z5 z TI TO i1 i2 f0 f1 oTO o1 o2 ++ (news ++ tl)) →
      wpAny (model prog w) A (execs body env) (ZipPost h₀ env.locals (Z5 z TI TO i1 i2 f0 f1 oTO o1 o2 ++ (news ++ tl)) xn yn m₀ (step v c1 c2) { s₁ with heap := h, toks := tk }) E { s₁ with heap := h, toks := tk }) ∧
    (∀ (tv : Tok) tl (uu : Str → Option Value) h tk, Over news tl → Fr h₀ env.locals h (fun q => if q = xn then uu q else if q = yn then some (.int (zfold step x y (min x.cps.size y.cps.size)) tv) else m₀ q) → News h₀ env.locals h (news ++ tl) → Q .next { s₁ with heap := h, toks := tk })
theorem For_zip {px pos : Pos} {iter : Expr} {m : Str → Option Value} (step : Int → Nat → Nat → Int) (_F : Fr h₀ env.locals s.heap m) (hxy : yn ≠ xn) (hh : A.handled = none) (hxl : env.kindOf xn = some .local) (hpl : (env.scope.kind == .class || (env.scope.kind == .module && env.locals != env.globals)) = false)
    (h : wpAny (model prog w) A (eval iter env) (ZSrc prog w A h₀ env xn yn body Q E step) E s)
    (hs : ∀ x, foldedSetIterable iter env x = pure x := by intro _; rfl)
    (hE : PassesOwn (model prog w) A env E := by passes_own) :
    wpAny (model prog w) A (exec (.For (.Name xn px) iter body [] pos) env) Q E s := by
  refine wpAny_For (wpAny_mono h (fun xv s₁ h₁ => ?_) fun _ _ e => e) hs
  obtain ⟨z, TI, TO, i1, i2, x, y, t, u, tv0, news, m₀, o1, o2, rfl, D, hn, F, N, ho1, ho2, hne, hv, turn, done⟩ := h₁
  refine pi_zip (N (z, zipObj .none false TI TO) (by simp)).1 ?_
  exact zip_loop (R := fun r s' => match r with | .ok f => Q f s' | .error e => cameBackBy (model prog w) A env E e s') step hxy hh D hn hxl hpl F N ho1 ho2 hne hv
    (fun i v tv t1 t2 c1 c2 T tl h tk f0 f1 oTO o1 o2 a b c d e f g => wpAny_mono (turn i v tv t1 t2 c1 c2 T tl h tk f0 f1 oTO o1 o2 a b c d e f g) (fun _ _ x => x) hE) done
/-- iter of a zip -/
theorem k_iterz {L : Addr} {m : Str → Option Value} {news : Led} {Q : Value → Shared → Prop} {z TI TO : Addr} {f0 : Value} {f1 : Bool} (N : News h₀ L s.heap news) (hm : (z, zipObj f0 f1 TI TO) ∈ news) (h : Q (.ref z) s) : wpAny (model prog w) A (call (.builtin "iter") [.ref z]) Q E s := by
  refine call_function_entry (by decide +kernel) (by decide +kernel) kdk_entry_iter (kdk_args_iter _) ?_
  unfold Builtin.«iter»
  refine wpAny_bind (m := someArgs "iter" 1 2 _) (wpAny_of_eq (a := [Value.ref z]) (by first | rfl | kernel_rfl!) ?_)
  show wpAny _ _ (pyIter (.ref z) >>= _) _ _ _
  refine wpAny_bind (pi_zip (N _ hm).1 ?_)
  exact wpAny_pure ⟨_, rfl, h⟩
end
end SZ4
section SZ2
open PySem PySem.W PyProof.Rows PySem.Calls
set_option Elab.async false
set_option maxRecDepth 100000
set_option maxHeartbeats 3200000
noncomputable abbrev siObj (x : Str) (t : Tok) : Obj := { cls := .type "str_ascii_iterator", data := .fields #[.str x t, .int 0 0] }
noncomputable abbrev zH1 (h : Heap) (x : Str) (t : Tok) : Heap := h.push (siObj x t)
noncomputable abbrev zH2 (h : Heap) (x : Str) (t : Tok) (y : Str) (u : Tok) : Heap := (zH1 h x t).push (siObj y u)
noncomputable abbrev zH3 (h : Heap) (x : Str) (t : Tok) (y : Str) (u : Tok) : Heap := (zH2 h x t y u).push (pairObj (.ref h.objs.size) (.ref (zH1 h x t).objs.size))
noncomputable abbrev zH4 (h : Heap) (x : Str) (t : Tok) (y : Str) (u : Tok) : Heap := (zH3 h x t y u).push (pairObj .none .none)
noncomputable abbrev zH5 (h : Heap) (x : Str) (t : Tok) (y : Str) (u : Tok) : Heap := (zH4 h x t y u).push { cls := .type "zip", data := .fields #[.none, .bool false, .bool false, .ref (zH2 h x t y u).objs.size, .ref (zH3 h x t y u).objs.size] }
theorem meets_zip_str (x : Str) (t : Tok) (y : Str) (u : Tok) (hx : x.cps.all (· < 128) = true) (hy : y.cps.all (· < 128) = true) :
    Meets (Builtin.«zip.__new__» ⟨[.type "zip", .str x t, .str y u], []⟩) (fun _ R s => R (.ok (.ret (.ref (zH4 s.heap x t y u).objs.size))) { s with heap := zH5 s.heap x t y u }) :=
  .of_wp fun prog w A R s h => by
    obtain ⟨hp, g, d, tk, os⟩ := s
    have hsub := sub_zip
    wp_walk using wpAny_pyIter_ascii hx, wpAny_pyIter_ascii hy
    exact ⟨_, rfl, h⟩
section
variable {prog : Program} {w : World} {A : Around} {E : Value → Shared → Prop} {s : Shared} {h₀ : Heap} {L : Addr} {m : Str → Option Value} {news : List (Addr × Obj)} {Q : Value → Shared → Prop}
/-- zip of two texts -/
theorem k_zip {x y : Str} {t u : Tok} (hx : x.cps.all (· < 128) = true) (hy : y.cps.all (· < 128) = true) (F : Fr h₀ L s.heap m) (N : News h₀ L s.heap news)
    (h : ∀ z TI TO i1 i2 h', Fr h₀ L h' m → News h₀ L h' ((z, zipObj .none false TI TO) :: (TO, pairObj .none .none) :: (TI, pairObj (.ref i1) (.ref i2)) :: (i2, siObj y u) :: (i1, siObj x t) :: news) → (∀ p ∈ news, p.1 < i1) → i1 < i2 → i2 < TI → TI < TO → TO < z → Q (.ref z) { s with heap := h' }) :
    wpAny (model prog w) A (call (.type "zip") [.str x t, .str y u]) Q E s := by
  refine callType_new PySem.F.called_zip (by decide) (PySem.F.typeCall_zip_2 _ _) (PySem.F.newCall_zip_2 _ _) (fun obj => PySem.F.args_object_init_3 obj _ _) PySem.F.entry_zip_new
    (meets_zip_str x t y u hx hy) ?_
  have z1 : (zH1 s.heap x t).objs.size = s.heap.objs.size + 1 := Heap.size_push ..
  have z2 : (zH2 s.heap x t y u).objs.size = s.heap.objs.size + 2 := by rw [Heap.size_push, z1]
  have z3 : (zH3 s.heap x t y u).objs.size = s.heap.objs.size + 3 := by rw [Heap.size_push, z2]
  have z4 : (zH4 s.heap x t y u).objs.size = s.heap.objs.size + 4 := by rw [Heap.size_push, z3]
  have g5 : (zH5 s.heap x t y u).get? (zH4 s.heap x t y u).objs.size = some _ := Heap.get?_push_size _ rfl
  have F1 := F.push (siObj x t)
  have N1 := News.push F N (siObj x t) rfl
  have F2 := F1.push (siObj y u)
  have N2 := News.push F1 N1 (siObj y u) rfl
  have F3 := F2.push (pairObj (.ref s.heap.objs.size) (.ref (zH1 s.heap x t).objs.size))
  have N3 := News.push F2 N2 (pairObj (.ref s.heap.objs.size) (.ref (zH1 s.heap x t).objs.size)) rfl
  have F4 := F3.push (pairObj .none .none)
  have N4 := News.push F3 N3 (pairObj .none .none) rfl
  have F5 := F4.push ({ cls := .type "zip", data := .fields #[.none, .bool false, .bool false, .ref (zH2 s.heap x t y u).objs.size, .ref (zH3 s.heap x t y u).objs.size] } : Obj)
  have N5 := News.push F4 N4 ({ cls := .type "zip", data := .fields #[.none, .bool false, .bool false, .ref (zH2 s.heap x t y u).objs.size, .ref (zH3 s.heap x t y u).objs.size] } : Obj) rfl
  exact ⟨⟨_, g5, rfl⟩, h _ _ _ _ _ _ F5 N5 (fun p hp => Heap.lt_size (N p hp).1) (by show s.heap.objs.size < (zH1 s.heap x t).objs.size; omega) (by show (zH1 s.heap x t).objs.size < (zH2 s.heap x t y u).objs.size; omega)
    (by show (zH2 s.heap x t y u).objs.size < (zH3 s.heap x t y u).objs.size; omega) (by show (zH3 s.heap x t y u).objs.size < (zH4 s.heap x t y u).objs.size; omega)⟩
end
end SZ2
section STR
open PySem PySem.W PySem.W.X PyProof.Rows PySem.Calls
set_option Elab.async false
set_option maxRecDepth 100000
set_option maxHeartbeats 0
noncomputable abbrev kent (P : Params) (x : String) (t : Tok) (v : Value) : DictEntry := { hash := PyData.keyHash P (Str.ofString x), key := .str (Str.ofString x) t, val := v }
noncomputable abbrev kns0 (P : Params) (tt : Nat → Tok) (u1 u2 : Tok) (sl fi fl g1 g2 g3 g4 st : Addr) : Array DictEntry := #[kent P "__module__" (tt 0) (.str (Str.ofString "cpy313.functools") u1), kent P "__qualname__" (tt 13) (.str (Str.ofString "cmp_to_key.<locals>.K") (tt 14)), kent P "__firstlineno__" (tt 1) (.int 88 u2), kent P "__slots__" (tt 2) (.ref sl), kent P "__init__" (tt 3) (.ref fi), kent P "__lt__" (tt 4) (.ref fl), kent P "__gt__" (tt 5) (.ref g1), kent P "__eq__" (tt 6) (.ref g2), kent P "__le__" (tt 7) (.ref g3), kent P "__ge__" (tt 8) (.ref g4), kent P "__hash__" (tt 9) .none, kent P "__static_attributes__" (tt 10) (.ref st)]
theorem p1 : Builtin.Slots.bestBase [.type "object"] = pure (.type "object") := by kernel_rfl
theorem p2 : Builtin.Slots.slotNamesOf (.type "object") = pure [] := by kernel_rfl
theorem p3 : Builtin.Slots.givesDict (.type "object") = pure false := by kernel_rfl
theorem p4 : typeLookup (.type "object") (Str.ofString "__weakref__") = pure none := by rw [typeLookup_type, builtinLookup_eq_fast]; kernel_rfl
theorem p5 : Builtin.Slots.varSize (.type "object") = pure false := by kernel_rfl
theorem p6 : Builtin.Slots.givesWeak (.type "object") = pure false := by kernel_rfl

section
variable {prog : Program} {w : World} {A : Around} {E : Value → Shared → Prop} {s : Shared}
noncomputable abbrev nEntry (P : Params) (tt : Nat → Tok) (sl : Addr) : DictEntry := kent P "__slots__" (tt 2) (.ref sl)
theorem find_slots (P : Params) (tt : Nat → Tok) (u1 u2 : Tok) (sl fi fl g1 g2 g3 g4 st : Addr) : (kns0 P tt u1 u2 sl fi fl g1 g2 g3 g4 st).find? (·.key.isStr "__slots__") = some (nEntry P tt sl) := by kernel_rfl
theorem any_obj (P : Params) (tt : Nat → Tok) (u1 u2 : Tok) (sl fi fl g1 g2 g3 g4 st : Addr) : (kns0 P tt u1 u2 sl fi fl g1 g2 g3 g4 st).any (·.key.isStr (Builtin.Slots.mangle (Str.ofString "K") (Str.ofString "obj"))) = false := by kernel_rfl
theorem slots_read {P : Params} {tt : Nat → Tok} {u1 u2 t0 : Tok} {sl fi fl g1 g2 g3 g4 st : Addr} {Q : Builtin.Slots.Plan → Shared → Prop} (hsl : s.heap.get? sl = some { cls := .type "list", data := .seq #[.str (Str.ofString "obj") t0] })
    (h : ∀ h', (∀ b o, s.heap.get? b = some o → h'.get? b = some o) → Q { names := [Str.ofString "obj"], dict := false, weak := false, inherited := [] } { s with heap := h' }) :
    wpAny (model prog w) A (Builtin.Slots.read (Str.ofString "K") [.type "object"] (kns0 P tt u1 u2 sl fi fl g1 g2 g3 g4 st)) Q E s := by
  unfold Builtin.Slots.read
  refine wpAny_bind (wpAny_of_eq p1 ?_)
  refine wpAny_bind (wpAny_of_eq p2 ?_)
  refine wpAny_bind (wpAny_of_eq p3 ?_)
  refine wpAny_bind (wpAny_of_eq p6 ?_)
  refine wpAny_bind (wpAny_of_eq p5 ?_)
  rw [find_slots]
  dsimp only
  refine wpAny_bind (wpAny_rule ?_)
  have hL : s.heap.IsList sl [Value.str (Str.ofString "obj") t0].toArray := ⟨_, hsl, rfl, _, rfl⟩
  have hTy : s.TypeIs (.ref sl) "list" := ⟨_, hsl, rfl⟩
  refine wpAny_bind (wpAny_mono (Q := fun r s' => r = none ∧ s' = s) ?a (fun r s' hr => ?_) fun _ _ e => e)
  case a =>
    simp only [asStr?]
    refine wpAny_bind (wpAny_load hsl ?_)
    exact wpAny_pure ⟨rfl, rfl⟩
  obtain ⟨rfl, rfl⟩ := hr
  refine KFB.if_not rfl ?_
  refine wpAny_bind (collect_list hL ?_ (by rw [sizeLine_eq]; show 1 ≤ _; decide))
  refine wpAny_of_eq (a := { names := [Str.ofString "obj"], dict := false, weak := false, inherited := [] }) (by kernel_rfl) ?_
  refine h _ fun b o e => ?_
  have hb := Heap.lt_size e
  rw [Heap.get?_update_ne _ _ _ _ (Nat.ne_of_lt hb)]
  exact Heap.get?_push_of_some _ e
end
end STR
section STN0
open PySem PySem.W PySem.W.X PyProof.Rows PySem.Calls
set_option Elab.async false
set_option maxRecDepth 100000
set_option maxHeartbeats 0
set_option profiler true
set_option profiler.threshold 500
theorem sub_tup : isSubtype (.type "tuple") (.type "tuple") = pure true := by rw [isSubtype_type]; kernel_rfl
theorem sub_dict : isSubtype (.type "dict") (.type "dict") = pure true := by rw [isSubtype_type]; kernel_rfl
theorem sub_type : isSubtype (.type "type") (.type "type") = pure true := by rw [isSubtype_type]; kernel_rfl
theorem ext_obj : Builtin.extendedBase [.type "object"] = pure (.type "object") := by kernel_rfl
theorem dict_iter : typeLookup (.type "dict") (Str.ofString "__iter__") = pure (some (.builtin "dict.__iter__")) := by rw [typeLookup_type, builtinLookup_eq_fast]; kernel_rfl
end STN0
section STN1
open PySem PySem.W PySem.W.X PyProof.Rows PySem.Calls
set_option Elab.async false
set_option maxRecDepth 100000
set_option maxHeartbeats 0
theorem pIf_not {α : Type} {M : Model} {A : Around} {E : Value → Shared → Prop} {s : Shared} {c : Prop} {i : Decidable c} {a b : Sem α} {Q : α → Shared → Prop} (hc : ¬ c) (h : wpAny M A b Q E s) : wpAny M A (@ite _ c i a b) Q E s := by rw [if_neg hc]; exact h
theorem pIf_so {α : Type} {M : Model} {A : Around} {E : Value → Shared → Prop} {s : Shared} {c : Prop} {i : Decidable c} {a b : Sem α} {Q : α → Shared → Prop} (hc : c) (h : wpAny M A a Q E s) : wpAny M A (@ite _ c i a b) Q E s := by rw [if_pos hc]; exact h
theorem forc {α β : Type} {M : Model} {A : Around} {E : Value → Shared → Prop} {s : Shared} {x : α} {l : List α} {b : β} {f : α → β → Sem (ForInStep β)} {Q : β → Shared → Prop} (h : wpAny M A (f x b) (fun r s' => match r with | .yield c => wpAny M A (forIn l c f) Q E s' | .done c => Q c s') E s) : wpAny M A (forIn (x :: l) b f) Q E s := by
  rw [List.forIn_cons]
  refine wpAny_bind (wpAny_mono h (fun r s' hr => ?_) fun _ _ e => e)
  cases r with
  | done c => exact wpAny_pure hr
  | yield c => exact hr
theorem forn {α β : Type} {M : Model} {A : Around} {E : Value → Shared → Prop} {s : Shared} {b : β} {f : α → β → Sem (ForInStep β)} {Q : β → Shared → Prop} (h : Q b s) : wpAny M A (forIn [] b f) Q E s := by
  rw [List.forIn_nil]
  exact wpAny_pure h
theorem for1 {α β : Type} {M : Model} {A : Around} {E : Value → Shared → Prop} {s : Shared} {x : α} {b : β} {f : α → β → Sem (ForInStep β)} {Q : β → Shared → Prop} (h : wpAny M A (f x b) (fun r s' => match r with | .yield c => Q c s' | .done c => Q c s') E s) : wpAny M A (forIn [x] b f) Q E s :=
  forc (wpAny_mono h (fun r s' hr => by
    cases r with
    | done c => exact hr
    | yield c => exact forn hr) fun _ _ e => e)
/-- two objects in the making, all else as it stood -/
structure TS (s0 h : Heap) (n c : Addr) (on oc : Obj) : Prop where
  keep : ∀ b o, s0.get? b = some o → h.get? b = some o
  gn : h.get? n = some on
  gc : h.get? c = some oc
  n0 : s0.get? n = none
  c0 : s0.get? c = none
  ne : n ≠ c
section
variable {s0 h : Heap} {n c : Addr} {on oc : Obj}
theorem TS.setN (T : TS s0 h n c on oc) (f : Obj → Obj) (hf : (f on).isFreed = false) : TS s0 (h.update n f) n c (f on) oc :=
  ⟨fun b o e => (Heap.get?_update_other _ _ (fun q : n = b => by rw [← q, T.n0] at e; cases e)).trans (T.keep b o e), Heap.get?_update_self f T.gn hf, (Heap.get?_update_other _ _ T.ne).trans T.gc, T.n0, T.c0, T.ne⟩
theorem TS.setC (T : TS s0 h n c on oc) (f : Obj → Obj) (hf : (f oc).isFreed = false) : TS s0 (h.update c f) n c on (f oc) :=
  ⟨fun b o e => (Heap.get?_update_other _ _ (fun q : c = b => by rw [← q, T.c0] at e; cases e)).trans (T.keep b o e), (Heap.get?_update_other _ _ (Ne.symm T.ne)).trans T.gn, Heap.get?_update_self f T.gc hf, T.n0, T.c0, T.ne⟩
theorem TS.keeps {h' : Heap} (T : TS s0 h n c on oc) (k : ∀ b o, h.get? b = some o → h'.get? b = some o) : TS s0 h' n c on oc := ⟨fun b o e => k _ _ (T.keep b o e), k _ _ T.gn, k _ _ T.gc, T.n0, T.c0, T.ne⟩
end
section
variable {prog : Program} {w : World} {A : Around} {E : Value → Shared → Prop} {s : Shared} {s0 : Heap} {n c : Addr} {on oc : Obj}
theorem dent {a : Addr} {o : Obj} {es : Array DictEntry} {ep : Nat} {p : Option Value} {Q : Array DictEntry → Shared → Prop} (ho : s.heap.get? a = some o) (hd : o.data = .dict es ep) (h : Q es s) : wpAny (model prog w) A (dictEntries a p) Q E s :=
  wpAny_bind (wpAny_loadPart ho (by rw [hd]; exact wpAny_pure h))
theorem nget {name : Str} {r : Option Value} {Q : Option Value → Shared → Prop} (T : TS s0 s.heap n c on oc) (hr : nsLook name on = pure r) (h : Q r s) : wpAny (model prog w) A (nsGet n name) Q E s :=
  wpAny_bind (m := loadPart n _) (wpAny_loadPart T.gn (wpAny_of_eq hr h))
theorem ndel {name : Str} {Q : Bool → Shared → Prop} (T : TS s0 s.heap n c on oc) (hr : nsHas name on = pure true) (hf : (Obj.dropName name on).isFreed = false) (h : ∀ h', TS s0 h' n c (Obj.dropName name on) oc → Q true { s with heap := h' }) : wpAny (model prog w) A (nsDel n name) Q E s := by
  refine wpAny_bind (m := loadPart n _) (wpAny_loadPart T.gn (wpAny_bind (wpAny_of_eq hr ?_)))
  refine KFB.if_so rfl ?_
  refine wpAny_bind (wpAny_updatePart T.gn ?_)
  exact wpAny_pure (h _ (T.setN _ hf))
noncomputable abbrev hashOf (w : World) (name : Str) : Int := if name.cps.isEmpty then 0 else reduceHash (w.params.strHash name.cps)
theorem nset {name : Str} {v : Value} {es : Array DictEntry} {ep : Nat} {Q : Unit → Shared → Prop} (T : TS s0 s.heap n c on oc) (hd : on.data = .dict es ep) (ha : aRefKeyMayBeTheName name es = false) (hf : ∀ t, (Obj.putName name (hashOf w name) (.str name t) v on).isFreed = false)
    (h : ∀ h', TS s0 h' n c (Obj.putName name (hashOf w name) (.str name s.toks) v on) oc → Q () { s with heap := h', toks := s.toks + 1 }) : wpAny (model prog w) A (nsSet n name v) Q E s := by
  unfold nsSet
  refine wpAny_bind (m := strHash name) (wpAny_bind (m := ask) (wpAny_askSetting (wpAny_pure ?_)))
  refine wpAny_bind (wpAny_mkText ?_)
  refine wpAny_bind (wpAny_loadPart T.gn ?_)
  rw [hd]
  refine KFB.if_not ha ?_
  refine wpAny_updatePart T.gn ?_
  exact h _ (T.setN _ (hf _))
theorem cslot {i : Nat} {v : Option Value} {Q : Unit → Shared → Prop} (T : TS s0 s.heap n c on oc) (hi : i < 100) (hf : oc.isFreed = false) (h : ∀ h', TS s0 h' n c on { oc with slots := (oc.slots ++ Array.replicate (i + 1 - oc.slots.size) none).setIfInBounds i v } → Q () { s with heap := h' }) : wpAny (model prog w) A (setSlotAt c i v) Q E s := by
  unfold setSlotAt
  refine pIf_not (by rw [sizeLine_eq]; omega) ?_
  refine wpAny_updatePart T.gc ?_
  exact h _ (T.setC _ (by obtain ⟨a, b, d, e⟩ := oc; cases d <;> first | rfl | exact hf))
theorem cupd {f : ClassData → ClassData} {cd : ClassData} {Q : Unit → Shared → Prop} (T : TS s0 s.heap n c on oc) (hd : oc.data = .cls cd) (hp : (Obj.mapCls f oc).data.pastItsLine = none) (hf : (Obj.mapCls f oc).isFreed = false) (h : ∀ h', TS s0 h' n c on (Obj.mapCls f oc) → Q () { s with heap := h' }) : wpAny (model prog w) A (updateCls c f) Q E s := by
  unfold updateCls
  refine wpAny_bind (wpAny_load T.gc ?_)
  rw [hd]
  refine wpAny_bind (wpAny_update T.gc ?_)
  have T' := T.setC _ hf
  unfold lookBehind
  refine wpAny_bind (wpAny_loadPart T'.gc ?_)
  rw [hp]
  exact wpAny_pure (h _ T')
theorem cdata {cd : ClassData} {Q : ClassData → Shared → Prop} (T : TS s0 s.heap n c on oc) (hd : oc.data = .cls cd) (h : Q cd s) : wpAny (model prog w) A (classData c) Q E s := by
  unfold classData
  refine wpAny_bind (wpAny_load T.gc ?_)
  rw [hd]
  exact wpAny_pure h
end
end STN1
section STS1
open PySem PySem.W PySem.W.X PyProof.Rows PySem.Calls
set_option Elab.async false
set_option maxRecDepth 100000
set_option maxHeartbeats 0
noncomputable abbrev QN : Str := Str.ofString "cmp_to_key.<locals>.K"
noncomputable abbrev supObj (c : Addr) : Obj := { cls := .type "super", data := .fields #[.ref c, .ref c, .ref c] }
noncomputable abbrev clsD (c n b : Addr) (t u : Tok) : Obj := { cls := .type "type", data := .cls (ClassData.mk (Str.ofString "K") [.type "object"] [.ref c, .type "object"] n QN false [Str.ofString "obj"] [] false none false), slots := #[some (.ref b), none, some (.str (Str.ofString "K") t), some (.str QN u), some (.builtin "object.__new__"), some (.bool false)] }
set_option hygiene false in
local macro_rules | `(tactic| x_close) => `(tactic| (rename Mem _ _ _ _ => D9; first | exact hQ9 _ _ (grew_of D9) | fail "x_close"))
section
variable {prog : Program} {w : World} {A : Around} {s : Shared} {Q : Value → Shared → Prop} {E : Value → Shared → Prop}
theorem super_raw (c n b : Addr) (t u : Tok) (hc : s.heap.get? c = some ⟨.type "type", none, .cls (ClassData.mk (Str.ofString "K") [.type "object"] [.ref c, .type "object"] n QN false [Str.ofString "obj"] [] false none false), #[some (.ref b), none, some (.str (Str.ofString "K") t), some (.str QN u), some (.builtin "object.__new__"), some (.bool false)]⟩)
  (hQ9 : ∀ a h', Grew s.heap h' [(a, supObj c)] → Q (.ref a) { s with heap := h' }) :
   wpAny (model prog w) AZ (call (.type "super") [.ref c, .ref c]) Q (fun _ _ => False) s := by
  x_run
noncomputable abbrev bndObj (c : Addr) : Obj := { cls := .type "builtin_function_or_method", data := .fields #[.builtin "object.__init_subclass__", .ref c] }
theorem cmget_raw (c n b : Addr) (t u : Tok) (hc : s.heap.get? c = some ⟨.type "type", none, .cls (ClassData.mk (Str.ofString "K") [.type "object"] [.ref c, .type "object"] n QN false [Str.ofString "obj"] [] false none false), #[some (.ref b), none, some (.str (Str.ofString "K") t), some (.str QN u), some (.builtin "object.__new__"), some (.bool false)]⟩)
  (hQ9 : ∀ a h', Grew s.heap h' [(a, bndObj c)] → Q (.ref a) { s with heap := h' }) :
   wpAny (model prog w) AZ (call (.builtin "classmethod_descriptor.__get__") [.builtin "object.__init_subclass__", .none, .ref c]) Q (fun _ _ => False) s := by
  x_run
end
section
variable {prog : Program} {w : World} {A : Around} {s : Shared} {Q : Value → Shared → Prop} {E : Value → Shared → Prop}
set_option hygiene false in
local macro_rules | `(tactic| x_close) => `(tactic| first | exact hQ9 _ (grew_of (Mem.start _)) | (rename Mem _ _ _ _ => D9; exact hQ9 _ (grew_of D9)))
theorem initsub_raw (c n b f : Addr) (t u : Tok) (hf : s.heap.get? f = some ⟨.type "builtin_function_or_method", none, .fields #[.builtin "object.__init_subclass__", .ref c], #[]⟩) (hc : s.heap.get? c = some ⟨.type "type", none, .cls (ClassData.mk (Str.ofString "K") [.type "object"] [.ref c, .type "object"] n QN false [Str.ofString "obj"] [] false none false), #[some (.ref b), none, some (.str (Str.ofString "K") t), some (.str QN u), some (.builtin "object.__new__"), some (.bool false)]⟩)
  (hQ9 : ∀ h', Grew s.heap h' [] → Q .none { s with heap := h' }) :
   wpAny (model prog w) AZ (call (.ref f) []) Q (fun _ _ => False) s := by
  x_run
end
end STS1
section STS2
open PySem PySem.W PySem.W.X PyProof.Rows PySem.Calls
set_option Elab.async false
set_option maxRecDepth 100000
set_option maxHeartbeats 0
theorem cm_type : typeOf (.builtin "object.__init_subclass__") = pure (.type "classmethod_descriptor") := by kernel_rfl
theorem cm_get : typeLookup (.type "classmethod_descriptor") (Str.ofString "__get__") = pure (some (.builtin "classmethod_descriptor.__get__")) := by kernel_rfl
section
variable {prog : Program} {w : World} {A : Around} {s : Shared} {E : Value → Shared → Prop}
noncomputable abbrev statObj : Obj := { cls := .none, data := .dict #[] }
theorem opq_above {c : Addr} {Q : Option Str → Shared → Prop} (hS : s.heap.get? cStatics = some statObj) (h : Q none s) : wpAny (model prog w) A (opaqueClassAbove (.ref c)) Q E s := by
  unfold opaqueClassAbove
  refine wpAny_bind (m := anyOpaqueLoaded) (wpAny_bind (m := nsGet cStatics _) (wpAny_bind (m := loadPart cStatics _) (wpAny_loadPart hS (wpAny_of_eq (a := none) (by kernel_rfl) (wpAny_pure ?_)))))
  refine KFB.if_so rfl ?_
  exact wpAny_pure h
theorem super_get {Q : Fin → Shared → Prop} (c n b sp : Addr) (t u tk : Tok) (r : Room A) (hQ : ∀ a h', Grew s.heap h' [(a, bndObj c)] → Q (.done (.ret (.ref a))) { s with heap := h' }) (hS : s.heap.get? cStatics = some statObj) (hsp : s.heap.get? sp = some (supObj c)) (hc : s.heap.get? c = some (clsD c n b t u)) :
   wpAny (model prog w) A (Builtin.«super.__getattribute__» ⟨[.ref sp, .str (Str.ofString "__init_subclass__") tk], []⟩) Q E s := by
  refine wpAny_bind (m := asStr? (.str _ _)) (wpAny_of_eq (a := some (Str.ofString "__init_subclass__")) rfl ?_)
  refine KFB.if_not rfl ?_
  refine wpAny_bind (m := asStr? (.str _ _)) (wpAny_of_eq (a := some (Str.ofString "__init_subclass__")) rfl ?_)
  refine wpAny_bind (m := field (.ref sp) 0) (wpAny_field hsp rfl (x := .ref c) rfl ?_)
  refine wpAny_bind (m := field (.ref sp) 1) (wpAny_field hsp rfl (x := .ref c) rfl ?_)
  refine wpAny_bind (m := field (.ref sp) 2) (wpAny_field hsp rfl (x := .ref c) rfl ?_)
  refine KFB.if_not (by kernel_rfl) ?_
  refine wpAny_bind (m := notOfAnOpaqueClass _ _ _) (wpAny_bind (m := opaqueClassAbove (.ref c)) (opq_above hS (wpAny_pure ?_)))
  refine KFB.if_not (by kernel_rfl) ?_
  refine wpAny_bind (m := mroOf (.ref c)) (wpAny_bind (m := classData c) (wpAny_bind (m := load c) (wpAny_load hc (wpAny_pure (wpAny_pure ?_)))))
  have hdrop : (List.drop 1 (List.dropWhile (fun x => x != Value.ref c) [.ref c, .type "object"])) = [.type "object"] := by simp [List.dropWhile]
  refine wpAny_bind (m := forIn (List.drop 1 (List.dropWhile (fun x => x != Value.ref c) [.ref c, .type "object"])) _ _) ?_
  rw [hdrop]
  refine for1 ?_
  refine wpAny_bind (m := classOwn (.type "object") (Str.ofString "__init_subclass__")) (wpAny_of_eq (a := some (.builtin "object.__init_subclass__")) (by kernel_rfl) ?_)
  refine wpAny_bind (m := typeOf (.builtin "object.__init_subclass__")) (wpAny_of_eq cm_type ?_)
  refine wpAny_bind (m := typeLookup (.type "classmethod_descriptor") (Str.ofString "__get__")) (wpAny_of_eq cm_get ?_)
  have hcc : (if (Value.ref c == Value.ref c) = true then Value.none else Value.ref c) = Value.none := by simp
  refine wpAny_bind (m := holding [.builtin "object.__init_subclass__"] (call (.builtin "classmethod_descriptor.__get__") [.builtin "object.__init_subclass__", (if (Value.ref c == Value.ref c) = true then Value.none else Value.ref c), .ref c])) ?_
  rw [hcc]
  refine wpAny_holding (wkz r (cmget_raw c n b t u hc fun a h' G => ?_))
  refine wpAny_bind (m := ret (.ref a)) (wpAny_pure (wpAny_pure ?_))
  exact wpAny_pure (hQ a h' G)
theorem lookup_super_ga : typeLookup (.type "super") (Str.ofString "__getattribute__") = pure (some (.builtin "super.__getattribute__")) := by rw [typeLookup_type, builtinLookup_eq_fast]; kernel_rfl
theorem slot_super_ga : Slot "super" (Str.ofString "__getattribute__") "super.__getattribute__" :=
  .of (owner := "super") (n := "__getattribute__") lookup_super_ga (by decide +kernel) (by decide +kernel) (by decide +kernel) (by first | exact .inl (by decide +kernel) | exact .inr (by decide +kernel)) (by rw [isSubtype_type]; kernel_rfl)
theorem entry_super_ga : entryFor table "super.__getattribute__" = some Builtin.«super.__getattribute__» := entryFor_of_tree (by kernel_rfl)
theorem args_super_ga (a b : Value) : argsOk "super.__getattribute__" ⟨[a, b], []⟩ := by unfold argsOk; kernel_rfl
theorem getAttr_super {Q : Value → Shared → Prop} (c n b sp : Addr) (t u : Tok) {expr : Bool} (r : Room A.in1) (hQ : ∀ a h', Grew s.heap h' [(a, bndObj c)] → Q (.ref a) { s with heap := h', toks := s.toks + 1 }) (hS : s.heap.get? cStatics = some statObj) (hsp : s.heap.get? sp = some (supObj c)) (hc : s.heap.get? c = some (clsD c n b t u)) :
    wpAny (model prog w) A (getAttr (.ref sp) (Str.ofString "__init_subclass__") expr) Q E s := by
  unfold getAttr
  refine wpAny_bind (wpAny_mkText ?_)
  unfold getAttrBy
  refine wpAny_holding ?_
  refine wpAny_bind (wpAny_typeOf (T := "super") ⟨_, hsp, rfl⟩ ?_)
  refine wpAny_bind (wpAny_of_eq lookup_super_ga ?_)
  dsimp only
  rw [if_neg (by decide)]
  unfold getAttrByItsOwn
  refine wpAny_bind (wpAny_of_eq (a := none) rfl ?_)
  refine wpAny_bind (wpAny_attempt ?_)
  unfold callGetattribute boundAndCalled
  rw [if_neg (by simp [onTheHeap])]
  refine wpAny_bind (wpAny_of_eq (slot_super_ga.bind _) ?_)
  refine wpAny_call_entry slot_super_ga ⟨_, hsp, rfl⟩ entry_super_ga ?_ (args_super_ga _ _)
  refine super_get c n b sp t u _ r (fun a h' G => ?_) hS hsp hc
  exact ⟨_, rfl, wpAny_pure (hQ a h' G)⟩
end
end STS2
section STN
open PySem PySem.W PySem.W.X PyProof.Rows PySem.Calls
set_option Elab.async false
set_option maxRecDepth 100000
set_option maxHeartbeats 0
theorem tn_mro_hook : Builtin.mroHook? (.type "type") = pure none := by kernel_rfl
theorem tn_lin : Builtin.linearize [.type "object"] mroOf = pure [.type "object"] := by kernel_rfl
theorem tn_made : Bind.madeBy (.type "object") = pure (some "object.__new__") := by kernel_rfl
section
variable {prog : Program} {w : World} {A : Around} {E : Value → Shared → Prop} {s : Shared} {Q : Fin → Shared → Prop}
theorem new_dict {es : Array DictEntry} {Q : Value → Shared → Prop} (hz : es.size ≤ 100) (h : ∀ a h', (∀ b o, s.heap.get? b = some o → h'.get? b = some o) → s.heap.get? a = none → h'.get? a = some { cls := .type "dict", data := .dict es } → Q (.ref a) { s with heap := h' }) : wpAny (model prog w) A (newObj (.type "dict") (.dict es)) Q E s :=
  wpAny_newObj_type (h _ _ (fun b o e => Heap.get?_push_of_some _ e) (by
    cases e : s.heap.get? s.heap.objs.size with
    | none => rfl
    | some o => exact absurd (Heap.lt_size e) (Nat.lt_irrefl _)) (Heap.get?_push_size _ rfl)) (by show es.size ≤ sizeLine + 1; rw [sizeLine_eq]; omega)
noncomputable abbrev cls0 (n : Addr) : Obj := { cls := .type "type", data := .cls { name := Str.ofString "K", bases := [.type "object"], mro := [], ns := n, qualname := Str.ofString "cmp_to_key.<locals>.K" } }
theorem new_cls {n : Addr} {on : Obj} {s0 : Heap} {Q : Addr → Shared → Prop} (k : ∀ b o, s0.get? b = some o → s.heap.get? b = some o) (n0 : s0.get? n = none) (gn : s.heap.get? n = some on)
    (h : ∀ c h', TS s0 h' n c on (cls0 n) → Q c { s with heap := h' }) : wpAny (model prog w) A (alloc (cls0 n)) Q E s := by
  refine wpAny_alloc (h _ _ ⟨fun b o e => Heap.get?_push_of_some _ (k b o e), Heap.get?_push_of_some _ gn, Heap.get?_push_size _ rfl, n0, ?_, Nat.ne_of_lt (Heap.lt_size gn)⟩)
  cases e : s0.get? s.heap.objs.size with
  | none => rfl
  | some o => exact absurd (Heap.lt_size (k _ _ e)) (Nat.lt_irrefl _)
theorem TS.to {s0 h : Heap} {n c : Addr} {on oc on' oc' : Obj} (T : TS s0 h n c on oc) (e1 : on = on') (e2 : oc = oc') : TS s0 h n c on' oc' := e1 ▸ e2 ▸ T
noncomputable abbrev nsA (P : Params) (tt : Nat → Tok) (u1 u2 : Tok) (sl fi fl g1 g2 g3 g4 st : Addr) : Obj := { cls := .type "dict", data := .dict #[kent P "__module__" (tt 0) (.str (Str.ofString "cpy313.functools") u1), kent P "__firstlineno__" (tt 1) (.int 88 u2), kent P "__slots__" (tt 2) (.ref sl), kent P "__init__" (tt 3) (.ref fi), kent P "__lt__" (tt 4) (.ref fl), kent P "__gt__" (tt 5) (.ref g1), kent P "__eq__" (tt 6) (.ref g2), kent P "__le__" (tt 7) (.ref g3), kent P "__ge__" (tt 8) (.ref g4), kent P "__hash__" (tt 9) .none, kent P "__static_attributes__" (tt 10) (.ref st)] 1 }
noncomputable abbrev clsOf (c n b : Addr) (hasDict : Bool) (sn : List Str) (t u : Tok) (more : Array (Option Value)) : Obj := { cls := .type "type", data := .cls (ClassData.mk (Str.ofString "K") [.type "object"] [.ref c, .type "object"] n QN hasDict sn [] false none false), slots := #[some (.ref b), none, some (.str (Str.ofString "K") t), some (.str QN u)] ++ more }
theorem tl_c {c n : Addr} {s0 : Heap} {on oc : Obj} {cd : ClassData} {name : Str} {r1 : Option Value} {Q : Option Value → Shared → Prop} (T : TS s0 s.heap n c on oc) (hd : oc.data = .cls cd) (hm : cd.mro = [.ref c, .type "object"]) (hns : cd.ns = n) (hr : nsLook name on = pure r1)
    (h : Q (r1.or (builtinOwn "object" name)) s) : wpAny (model prog w) A (typeLookup (.ref c) name) Q E s := by
  unfold typeLookup
  refine wpAny_bind (m := mroOf (.ref c)) (wpAny_bind (m := classData c) (cdata T hd (wpAny_pure ?_)))
  rw [hm]
  refine wpAny_bind (forc ?_)
  refine wpAny_bind (m := classOwn (.ref c) name) (wpAny_bind (m := classData c) (cdata T hd ?_))
  rw [hns]
  refine nget T hr ?_
  cases r1 with
  | some v => exact wpAny_pure (wpAny_pure h)
  | none =>
    refine wpAny_pure ?_
    refine for1 ?_
    refine wpAny_bind (m := classOwn (.type "object") name) (wpAny_pure ?_)
    have h' : Q (builtinOwn "object" name) s := by simpa using h
    cases hb : builtinOwn "object" name with
    | some v => rw [hb] at h'; exact wpAny_pure (wpAny_pure h')
    | none => rw [hb] at h'; exact wpAny_pure (wpAny_pure h')
theorem refresh_c {c n b : Addr} {s0 : Heap} {P : Params} {tt : Nat → Tok} {u1 u2 kt u : Tok} {sl fi fl g1 g2 g3 g4 st : Addr} {Q : Unit → Shared → Prop} (T : TS s0 s.heap n c (nsA P tt u1 u2 sl fi fl g1 g2 g3 g4 st) (clsOf c n b true [] kt u #[some (.builtin "object.__new__")]))
    (h : Q () s) : wpAny (model prog w) A (Bind.refreshMaker c) Q E s := by
  unfold Bind.refreshMaker
  refine wpAny_bind (m := slotAt c 4) (wpAny_bind (m := loadPart c _) (wpAny_loadPart T.gc (wpAny_pure ?_)))
  refine KFB.if_not (by kernel_rfl) ?_
  refine wpAny_bind (m := typeLookup (.ref c) (Str.ofString "__new__")) (tl_c T rfl rfl rfl (r1 := none) (by kernel_rfl) ?_)
  refine wpAny_of_eq (a := ()) (by kernel_rfl) h
theorem nset' {n c : Addr} {s0 : Heap} {on oc : Obj} {name : Str} {v : Value} {es : Array DictEntry} {ep : Nat} {Q : Unit → Shared → Prop} (T : TS s0 s.heap n c on oc) (hd : on.data = .dict es ep) (ha : aRefKeyMayBeTheName name es = false) (hf : ∀ t, (Obj.putName name (hashOf w name) (.str name t) v on).isFreed = false)
    (h : ∀ h', TS s0 h' n c (Obj.putName name (hashOf w name) (.str name s.toks) v on) oc → (∀ b o, b ≠ n → s.heap.get? b = some o → h'.get? b = some o) → Q () { s with heap := h', toks := s.toks + 1 }) : wpAny (model prog w) A (nsSet n name v) Q E s := by
  unfold nsSet
  refine wpAny_bind (m := strHash name) (wpAny_bind (m := ask) (wpAny_askSetting (wpAny_pure ?_)))
  refine wpAny_bind (wpAny_mkText ?_)
  refine wpAny_bind (wpAny_loadPart T.gn ?_)
  rw [hd]
  refine KFB.if_not ha ?_
  refine wpAny_updatePart T.gn ?_
  exact h _ (T.setN _ (hf _)) fun b o hb e => (Heap.get?_update_other _ _ (Ne.symm hb)).trans e
theorem cslot' {n c : Addr} {s0 : Heap} {on oc : Obj} {i : Nat} {v : Option Value} {Q : Unit → Shared → Prop} (T : TS s0 s.heap n c on oc) (hi : i < 100) (hf : oc.isFreed = false) (h : ∀ h', TS s0 h' n c on { oc with slots := (oc.slots ++ Array.replicate (i + 1 - oc.slots.size) none).setIfInBounds i v } → (∀ b o, b ≠ c → s.heap.get? b = some o → h'.get? b = some o) → Q () { s with heap := h' }) : wpAny (model prog w) A (setSlotAt c i v) Q E s := by
  unfold setSlotAt
  refine pIf_not (by rw [sizeLine_eq]; omega) ?_
  refine wpAny_updatePart T.gc ?_
  exact h _ (T.setC _ (by obtain ⟨a, b, d, e⟩ := oc; cases d <;> first | rfl | exact hf)) fun b o hb e => (Heap.get?_update_other _ _ (Ne.symm hb)).trans e
theorem cupd' {n c : Addr} {s0 : Heap} {on oc : Obj} {f : ClassData → ClassData} {cd : ClassData} {Q : Unit → Shared → Prop} (T : TS s0 s.heap n c on oc) (hd : oc.data = .cls cd) (hp : (Obj.mapCls f oc).data.pastItsLine = none) (hf : (Obj.mapCls f oc).isFreed = false) (h : ∀ h', TS s0 h' n c on (Obj.mapCls f oc) → (∀ b o, b ≠ c → s.heap.get? b = some o → h'.get? b = some o) → Q () { s with heap := h' }) : wpAny (model prog w) A (updateCls c f) Q E s := by
  unfold updateCls
  refine wpAny_bind (wpAny_load T.gc ?_)
  rw [hd]
  refine wpAny_bind (wpAny_update T.gc ?_)
  have T' := T.setC _ hf
  unfold lookBehind
  refine wpAny_bind (wpAny_loadPart T'.gc ?_)
  rw [hp]
  exact wpAny_pure (h _ T' fun b o hb e => (Heap.get?_update_other _ _ (Ne.symm hb)).trans e)
noncomputable abbrev kmd (c : Addr) (t : Tok) : Obj := { cls := .type "member_descriptor", data := .fields #[.str (Str.ofString "obj") t, .ref c, .builtin "proto.slot", .builtin "proto.slot#set", .int 0 0] }
noncomputable abbrev nsB (P : Params) (tt : Nat → Tok) (u1 u2 to : Tok) (sl fi fl g1 g2 g3 g4 st md : Addr) : Obj := { cls := .type "dict", data := .dict #[kent P "__module__" (tt 0) (.str (Str.ofString "cpy313.functools") u1), kent P "__firstlineno__" (tt 1) (.int 88 u2), kent P "__slots__" (tt 2) (.ref sl), kent P "__init__" (tt 3) (.ref fi), kent P "__lt__" (tt 4) (.ref fl), kent P "__gt__" (tt 5) (.ref g1), kent P "__eq__" (tt 6) (.ref g2), kent P "__le__" (tt 7) (.ref g3), kent P "__ge__" (tt 8) (.ref g4), kent P "__hash__" (tt 9) .none, kent P "__static_attributes__" (tt 10) (.ref st), kent P "obj" to (.ref md)] 2 }
theorem install_c {c n b : Addr} {s0 : Heap} {tt : Nat → Tok} {u1 u2 kt u : Tok} {sl fi fl g1 g2 g3 g4 st : Addr} {Q : Unit → Shared → Prop} (T : TS s0 s.heap n c (nsA w.params tt u1 u2 sl fi fl g1 g2 g3 g4 st) (clsOf c n b true [] kt u #[some (.builtin "object.__new__")]))
    (h : ∀ md t to h' tk, TS s0 h' n c (nsB w.params tt u1 u2 to sl fi fl g1 g2 g3 g4 st md) (clsOf c n b false [Str.ofString "obj"] kt u #[some (.builtin "object.__new__")]) → h'.get? md = some (kmd c t) → s0.get? md = none → md ≠ n → md ≠ c → Q () { s with heap := h', toks := tk }) :
    wpAny (model prog w) A (Builtin.Slots.install (.ref c) n [.type "object"] { names := [Str.ofString "obj"], dict := false, weak := false, inherited := [] }) Q E s := by
  unfold Builtin.Slots.install
  refine wpAny_bind (for1 ?_)
  refine wpAny_bind (m := nsGet n _) (nget T (r := none) (by kernel_rfl) ?_)
  refine KFB.if_so rfl ?_
  refine wpAny_bind (m := mkStr _) (wpAny_mkStr ?_ (by rw [sizeLine_eq]; decide))
  refine wpAny_bind (m := newFields "member_descriptor" _) ?_
  refine wpAny_newObj_type (T := "member_descriptor") ?_ (by show 5 ≤ sizeLine + 2; rw [sizeLine_eq]; decide)
  have hfr : s0.get? s.heap.objs.size = none := by
    cases e : s0.get? s.heap.objs.size with
    | none => rfl
    | some o => exact absurd (Heap.lt_size (T.keep _ _ e)) (Nat.lt_irrefl _)
  have mn : s.heap.objs.size ≠ n := Nat.ne_of_gt (Heap.lt_size T.gn)
  have mc : s.heap.objs.size ≠ c := Nat.ne_of_gt (Heap.lt_size T.gc)
  have T1 : TS s0 (s.heap.push (kmd c s.toks)) n c _ _ := T.keeps fun b o e => Heap.get?_push_of_some _ e
  have gm : (s.heap.push (kmd c s.toks)).get? s.heap.objs.size = some (kmd c s.toks) := Heap.get?_push_size _ rfl
  refine wpAny_bind (m := nsSetByValue n _ _) ?_
  refine wpAny_bind (m := loadPart n _) (wpAny_loadPart T1.gn ?_)
  refine KFB.if_not (by kernel_rfl) ?_
  refine nset' T1 rfl (by kernel_rfl) (fun _ => rfl) fun h2 T2 k2 => ?_
  refine wpAny_pure ?_
  refine wpAny_bind (for1 ?_)
  refine wpAny_bind (m := Builtin.Slots.givesDict (.type "object")) (wpAny_of_eq p3 ?_)
  refine KFB.if_not rfl ?_
  refine wpAny_pure ?_
  refine pIf_not (by rw [sizeLine_eq]; decide) ?_
  refine cupd' T2 rfl (by kernel_rfl) (by kernel_rfl) fun h3 T3 k3 => ?_
  exact h _ s.toks (s.toks + 1) h3 _ (T3.to (by kernel_rfl) (by kernel_rfl)) (k3 _ _ mc (k2 _ _ mn gm)) hfr mn mc
noncomputable abbrev nsC (P : Params) (tt : Nat → Tok) (u1 u2 to td : Tok) (sl fi fl g1 g2 g3 g4 st md : Addr) : Obj := { cls := .type "dict", data := .dict #[kent P "__module__" (tt 0) (.str (Str.ofString "cpy313.functools") u1), kent P "__firstlineno__" (tt 1) (.int 88 u2), kent P "__slots__" (tt 2) (.ref sl), kent P "__init__" (tt 3) (.ref fi), kent P "__lt__" (tt 4) (.ref fl), kent P "__gt__" (tt 5) (.ref g1), kent P "__eq__" (tt 6) (.ref g2), kent P "__le__" (tt 7) (.ref g3), kent P "__ge__" (tt 8) (.ref g4), kent P "__hash__" (tt 9) .none, kent P "__static_attributes__" (tt 10) (.ref st), kent P "obj" to (.ref md), kent P "__doc__" td .none] 3 }
theorem forA {α β : Type} {M : Model} {A : Around} {E : Value → Shared → Prop} {s : Shared} {xs : Array α} {b : β} {f : α → β → Sem (ForInStep β)} {Q : β → Shared → Prop} (h : wpAny M A (forIn xs.toList b f) Q E s) : wpAny M A (forIn xs b f) Q E s := by rw [← Array.forIn_toList]; exact h
noncomputable abbrev SN : Str := Str.ofString "__set_name__"
theorem sn_str : typeLookup (.type "str") SN = pure none := by rw [typeLookup_type, builtinLookup_eq_fast]; kernel_rfl
theorem sn_int : typeLookup (.type "int") SN = pure none := by rw [typeLookup_type, builtinLookup_eq_fast]; kernel_rfl
theorem sn_list : typeLookup (.type "list") SN = pure none := by rw [typeLookup_type, builtinLookup_eq_fast]; kernel_rfl
theorem sn_tuple : typeLookup (.type "tuple") SN = pure none := by rw [typeLookup_type, builtinLookup_eq_fast]; kernel_rfl
theorem sn_fn : typeLookup (.type "function") SN = pure none := by rw [typeLookup_type, builtinLookup_eq_fast]; kernel_rfl
theorem sn_none : typeLookup (.type "NoneType") SN = pure none := by rw [typeLookup_type, builtinLookup_eq_fast]; kernel_rfl
theorem sn_md : typeLookup (.type "member_descriptor") SN = pure none := by rw [typeLookup_type, builtinLookup_eq_fast]; kernel_rfl
theorem tn_raw (b n0 sl fi fl g1 g2 g3 g4 st : Addr) (tt : Nat → Tok) (u1 u2 kt t0 : Tok) (ep : Nat)
    (r : Room A) (r1 : Room A.in1) (hS : s.heap.get? cStatics = some statObj)
    (hQ : ∀ (c n md : Addr) (tm to td : Tok) (h' : Heap) (tk : Nat), (∀ b o, s.heap.get? b = some o → h'.get? b = some o) → h'.get? c = some (clsD c n b kt (tt 14)) → h'.get? n = some (nsC w.params tt u1 u2 to td sl fi fl g1 g2 g3 g4 st md) → h'.get? md = some (kmd c tm) → s.heap.get? c = none → s.heap.get? n = none → s.heap.get? md = none → n ≠ c → md ≠ n → md ≠ c → Q (.done (.ret (.ref c))) { s with heap := h', toks := tk })
    (hfs : ∀ a ∈ [fi, fl, g1, g2, g3, g4], s.TypeIs (.ref a) "function") (hst : s.TypeIs (.ref st) "tuple") (hn1 : n0 ≠ sysModules) (hb : s.heap.get? b = some { cls := .type "tuple", data := .seq #[.type "object"] }) (hn : s.heap.get? n0 = some { cls := .type "dict", data := .dict (kns0 w.params tt u1 u2 sl fi fl g1 g2 g3 g4 st) ep }) (hsl : s.heap.get? sl = some { cls := .type "list", data := .seq #[.str (Str.ofString "obj") t0] }) :
    wpAny (model prog w) A (Builtin.«type.__new__» ⟨[.type "type", .str (Str.ofString "K") kt, .ref b, .ref n0], []⟩) Q E s := by
  have hTb : s.TypeIs (.ref b) "tuple" := ⟨_, hb, rfl⟩
  have hTn : s.TypeIs (.ref n0) "dict" := ⟨_, hn, rfl⟩
  refine wpAny_bind (m := asStr? (.str (Str.ofString "K") kt)) (wpAny_of_eq (a := some (Str.ofString "K")) rfl ?_)
  refine wpAny_bind (m := isInstance (.ref b) (.type "tuple")) (wpAny_isInstance hTb sub_tup ?_)
  refine KFB.if_not rfl ?_
  refine wpAny_bind (m := isInstance (.ref n0) (.type "dict")) (wpAny_isInstance hTn sub_dict ?_)
  refine KFB.if_not rfl ?_
  refine wpAny_bind (m := seqItems? (.ref b)) (wpAny_seqItems hb rfl ?_)
  refine pIf_not (by decide) ?_
  refine wpAny_bind (for1 ?_)
  refine wpAny_bind (m := isType (.type "object")) (wpAny_of_eq (a := true) (by kernel_rfl) ?_)
  refine KFB.if_not rfl ?_
  refine wpAny_pure ?_
  refine wpAny_bind (for1 ?_)
  refine wpAny_bind (m := typeOf (.type "object")) (wpAny_of_eq (a := .type "type") (by kernel_rfl) ?_)
  refine wpAny_bind (m := isSubtype (.type "type") (.type "type")) (wpAny_of_eq sub_type ?_)
  refine KFB.if_so rfl ?_
  refine wpAny_bind (wpAny_pure ?_)
  refine wpAny_pure ?_
  refine KFB.if_not (by decide) ?_
  refine wpAny_bind (m := Builtin.notOverATurnedClass [.type "object"]) (wpAny_of_eq (a := ()) (by kernel_rfl) ?_)
  refine wpAny_bind (m := Builtin.extendedBase [.type "object"]) (wpAny_of_eq ext_obj ?_)
  refine KFB.if_not (by simpa using hn1) ?_
  refine wpAny_bind (m := dictEntries n0 none) (dent hn rfl ?_)
  refine wpAny_bind (m := specialOf (.ref n0) (Str.ofString "__iter__")) (wpAny_specialOf hTn dict_iter ?_)
  refine KFB.if_so (by kernel_rfl) ?_
  refine wpAny_bind (m := pure _) (wpAny_pure ?_)
  refine wpAny_bind (m := holding _ (Builtin.Slots.read _ _ _)) (wpAny_holding (slots_read hsl fun h1 k1 => ?_))
  refine wpAny_bind (m := newObj (.type "dict") _) (new_dict (by show 12 ≤ 100; decide) fun n h2 k2 n2 g2' => ?_)
  refine KFB.if_not (by kernel_rfl) ?_
  refine wpAny_bind (KFB.if_not (by kernel_rfl) (wpAny_pure ?_))
  refine KFB.if_not (by kernel_rfl) ?_
  have ng : ∀ {name : Str} {r : Option Value} {Q : Option Value → Shared → Prop}, nsLook name { cls := .type "dict", data := .dict (kns0 w.params tt u1 u2 sl fi fl g1 g2 g3 g4 st) } = pure r → Q r { s with heap := h2 } → wpAny (model prog w) A (nsGet n name) Q E { s with heap := h2 } :=
    fun hr hq => wpAny_bind (m := loadPart n _) (wpAny_loadPart g2' (wpAny_of_eq hr hq))
  refine wpAny_bind (m := nsGet n (Str.ofString "__qualname__")) (ng (r := some (.str (Str.ofString "cmp_to_key.<locals>.K") (tt 14))) (by kernel_rfl) ?_)
  refine wpAny_bind (m := nsGet n (Str.ofString "__qualname__")) (ng (r := some (.str (Str.ofString "cmp_to_key.<locals>.K") (tt 14))) (by kernel_rfl) ?_)
  refine wpAny_bind (m := asStr? (.str (Str.ofString "cmp_to_key.<locals>.K") (tt 14))) (wpAny_of_eq (a := some (Str.ofString "cmp_to_key.<locals>.K")) rfl ?_)
  refine wpAny_bind (m := pure _) (wpAny_pure ?_)
  refine wpAny_bind (m := nsGet n (Str.ofString "__doc__")) (ng (r := none) (by kernel_rfl) ?_)
  have nn : s.heap.get? n = none := by
    cases e : s.heap.get? n with
    | none => rfl
    | some o => have := k1 _ _ e; rw [show h1.get? n = none from n2] at this; cases this
  refine wpAny_bind (m := alloc (cls0 n)) (new_cls (s0 := s.heap) (fun b o e => k2 _ _ (k1 _ _ e)) nn g2' fun c h3 T => ?_)
  refine KFB.if_so rfl ?_
  refine wpAny_bind (m := setSlotAt c 0 _) (cslot T (by decide) rfl fun h4 T => ?_)
  refine wpAny_bind (m := setSlotAt c 2 _) (cslot T (by decide) rfl fun h5 T => ?_)
  refine wpAny_bind (m := setSlotAt c 3 _) (cslot T (by decide) rfl fun h6 T => ?_)
  refine wpAny_bind (m := nsDel n (Str.ofString "__qualname__")) (ndel T (by kernel_rfl) (by kernel_rfl) fun h7 T => ?_)
  refine wpAny_bind (m := nsGet n (Str.ofString "__new__")) (nget T (r := none) (by kernel_rfl) ?_)
  refine wpAny_bind (forc ?_)
  refine wpAny_bind (m := nsGet n _) (nget T (r := none) (by kernel_rfl) ?_)
  refine wpAny_pure ?_
  refine for1 ?_
  refine wpAny_bind (m := nsGet n _) (nget T (r := none) (by kernel_rfl) ?_)
  refine wpAny_pure ?_
  refine wpAny_bind (m := nsGet n (Str.ofString "__classcell__")) (nget T (r := none) (by kernel_rfl) ?_)
  refine wpAny_bind (m := nsGet n (Str.ofString "__classdictcell__")) (nget T (r := none) (by kernel_rfl) ?_)
  refine wpAny_bind (m := Builtin.mroHook? (.type "type")) (wpAny_of_eq tn_mro_hook ?_)
  refine wpAny_bind (m := Builtin.linearize [.type "object"] mroOf) (wpAny_of_eq tn_lin ?_)
  refine wpAny_bind (m := pure _) (wpAny_pure ?_)
  have hfil : (([.ref c, .type "object"] : List Value).filter (· != .ref c)) = [.type "object"] := by simp
  refine wpAny_bind (m := List.anyM _ (([.ref c, .type "object"] : List Value).filter (· != .ref c))) (wpAny_of_eq (a := false) (by rw [hfil]; kernel_rfl) ?_)
  refine wpAny_bind (m := updateCls c _) (cupd T rfl (by kernel_rfl) (by kernel_rfl) fun h8 T => ?_)
  have T := T.to (on' := nsA w.params tt u1 u2 sl fi fl g1 g2 g3 g4 st) (oc' := clsOf c n b true [] kt (tt 14) #[]) (by kernel_rfl) (by kernel_rfl)
  refine wpAny_bind (m := Bind.madeBy (.type "object")) (wpAny_of_eq tn_made ?_)
  refine wpAny_bind (m := setSlotAt c 4 _) (cslot T (by decide) rfl fun h9 T => ?_)
  have T := T.to (on' := nsA w.params tt u1 u2 sl fi fl g1 g2 g3 g4 st) (oc' := clsOf c n b true [] kt (tt 14) #[some (.builtin "object.__new__")]) rfl (by kernel_rfl)
  refine wpAny_bind (m := Bind.refreshMaker c) (refresh_c T ?_)
  refine wpAny_bind (m := Builtin.Slots.install (.ref c) n _ _) (install_c T fun md tm to h10 tk10 T gm md0 mdn mdc => ?_)
  refine wpAny_bind (m := Builtin.Slots.givesWeak (.type "object")) (wpAny_of_eq p6 ?_)
  refine wpAny_bind (m := setSlotAt c 5 _) (cslot' T (by decide) rfl fun h11 T k11 => ?_)
  refine KFB.if_not rfl ?_
  refine KFB.if_not rfl ?_
  refine wpAny_bind (m := nsGet n (Str.ofString "__doc__")) (nget T (r := none) (by kernel_rfl) ?_)
  refine KFB.if_so rfl ?_
  refine wpAny_bind (m := nsSet n (Str.ofString "__doc__") .none) (nset' T rfl (by kernel_rfl) (fun _ => rfl) fun h12 T k12 => ?_)
  refine wpAny_bind (m := nsGet n (Str.ofString "__eq__")) (nget T (r := some (.ref g2)) (by kernel_rfl) ?_)
  refine KFB.if_so rfl ?_
  refine wpAny_bind (m := nsGet n (Str.ofString "__hash__")) (nget T (r := some .none) (by kernel_rfl) ?_)
  refine KFB.if_not rfl ?_
  refine wpAny_bind (for1 ?_)
  refine wpAny_bind (m := Builtin.noteSubclassOfBuiltin "object" c) (wpAny_of_eq (a := ()) (by kernel_rfl) ?_)
  refine wpAny_pure ?_
  show wpAny (model prog w) A _ Q E _
  refine wpAny_bind (wpAny_tryCatch ?_)
  refine wpAny_holding ?_
  refine wpAny_bind (m := dictEntries n none) (dent T.gn rfl ?_)
  refine wpAny_bind (m := forIn _ false _) (wpAny_of_eq (a := false) (by kernel_rfl) ?_)
  refine KFB.if_not rfl ?_
  refine wpAny_bind (m := dictEntries n none) (dent T.gn rfl ?_)
  refine wpAny_bind (m := forIn _ PUnit.unit _) (forA ?_)
  have gm12 := k12 _ _ mdn (k11 _ _ mdc gm)
  have kt1 : ∀ a TT, s.TypeIs (.ref a) TT → (∃ o, h12.get? a = some o ∧ o.cls = .type TT) := fun a TT ⟨o, e, q⟩ => ⟨o, T.keep _ _ e, q⟩
  refine forc ?_
  refine KFB.if_not (by kernel_rfl) ?_
  refine wpAny_bind (m := specialOf _ SN) (wpAny_specialOf (typeIs_str _ _ _) sn_str ?_)
  refine wpAny_pure ?_
  refine forc ?_
  refine KFB.if_not (by kernel_rfl) ?_
  refine wpAny_bind (m := specialOf _ SN) (wpAny_specialOf (typeIs_int _ _ _) sn_int ?_)
  refine wpAny_pure ?_
  refine forc ?_
  refine KFB.if_not (by kernel_rfl) ?_
  refine wpAny_bind (m := specialOf _ SN) (wpAny_specialOf (kt1 _ _ ⟨_, hsl, rfl⟩) sn_list ?_)
  refine wpAny_pure ?_
  refine forc ?_
  refine KFB.if_not (by kernel_rfl) ?_
  refine wpAny_bind (m := specialOf _ SN) (wpAny_specialOf (kt1 _ _ (hfs fi (by simp))) sn_fn ?_)
  refine wpAny_pure ?_
  refine forc ?_
  refine KFB.if_not (by kernel_rfl) ?_
  refine wpAny_bind (m := specialOf _ SN) (wpAny_specialOf (kt1 _ _ (hfs fl (by simp))) sn_fn ?_)
  refine wpAny_pure ?_
  refine forc ?_
  refine KFB.if_not (by kernel_rfl) ?_
  refine wpAny_bind (m := specialOf _ SN) (wpAny_specialOf (kt1 _ _ (hfs g1 (by simp))) sn_fn ?_)
  refine wpAny_pure ?_
  refine forc ?_
  refine KFB.if_not (by kernel_rfl) ?_
  refine wpAny_bind (m := specialOf _ SN) (wpAny_specialOf (kt1 _ _ (hfs g2 (by simp))) sn_fn ?_)
  refine wpAny_pure ?_
  refine forc ?_
  refine KFB.if_not (by kernel_rfl) ?_
  refine wpAny_bind (m := specialOf _ SN) (wpAny_specialOf (kt1 _ _ (hfs g3 (by simp))) sn_fn ?_)
  refine wpAny_pure ?_
  refine forc ?_
  refine KFB.if_not (by kernel_rfl) ?_
  refine wpAny_bind (m := specialOf _ SN) (wpAny_specialOf (kt1 _ _ (hfs g4 (by simp))) sn_fn ?_)
  refine wpAny_pure ?_
  refine forc ?_
  refine KFB.if_not (by kernel_rfl) ?_
  refine wpAny_bind (m := specialOf _ SN) (wpAny_specialOf (typeIs_none _) sn_none ?_)
  refine wpAny_pure ?_
  refine forc ?_
  refine KFB.if_not (by kernel_rfl) ?_
  refine wpAny_bind (m := specialOf _ SN) (wpAny_specialOf (kt1 _ _ hst) sn_tuple ?_)
  refine wpAny_pure ?_
  refine forc ?_
  refine KFB.if_not (by kernel_rfl) ?_
  refine wpAny_bind (m := specialOf _ SN) (wpAny_specialOf (⟨_, gm12, rfl⟩) sn_md ?_)
  refine wpAny_pure ?_
  refine forc ?_
  refine KFB.if_not (by kernel_rfl) ?_
  refine wpAny_bind (m := specialOf _ SN) (wpAny_specialOf (typeIs_none _) sn_none ?_)
  refine wpAny_pure ?_
  refine forn ?_
  have T := T.to (on' := nsC w.params tt u1 u2 to tk10 sl fi fl g1 g2 g3 g4 st md) (oc' := clsD c n b kt (tt 14)) (by kernel_rfl) (by kernel_rfl)
  refine wpAny_bind (m := call (.type "super") [.ref c, .ref c]) (wkz r (super_raw c n b kt (tt 14) T.gc fun sp h13 G13 => ?_))
  refine wpAny_bind (m := holding _ (getAttr (.ref sp) (Str.ofString "__init_subclass__") _)) (wpAny_holding (getAttr_super c n b sp kt (tt 14) r1 (fun f h14 G14 => ?_) (G13.1 _ _ (T.keep _ _ hS)) (G13.2.1 _ (.head _)).1 (G13.1 _ _ T.gc)))
  refine wpAny_bind (m := call (.ref f) []) (wkz r (initsub_raw c n b f kt (tt 14) (G14.2.1 _ (.head _)).1 (G14.1 _ _ (G13.1 _ _ T.gc)) fun h15 G15 => ?_))
  refine wpAny_pure ?_
  have kk : ∀ b o, h12.get? b = some o → h15.get? b = some o := fun b o e => G15.1 _ _ (G14.1 _ _ (G13.1 _ _ e))
  exact wpAny_pure (hQ c n md tm to tk10 h15 _ (fun b o e => kk _ _ (T.keep _ _ e)) (kk _ _ T.gc) (kk _ _ T.gn) (kk _ _ gm12) T.c0 T.n0 md0 T.ne mdn mdc)
end
end STN
section STC
open PySem PySem.W PySem.W.X PyProof.Rows PySem.Calls
set_option Elab.async false
set_option maxRecDepth 100000
set_option maxHeartbeats 0
theorem tc_made : Bind.madeBy (.type "type") = pure (some "type.__new__") := by kernel_rfl
theorem tc_mro : mroOf (.type "type") = pure [.type "type", .type "object"] := by kernel_rfl
theorem tc_init : typeLookup (.type "type") (Str.ofString "__init__") = pure (some (.builtin "type.__init__")) := by rw [typeLookup_type, builtinLookup_eq_fast]; kernel_rfl
theorem entry_type_new : entryFor table "type.__new__" = some Builtin.«type.__new__» := entryFor_of_tree (by kernel_rfl)
theorem entry_type_init : entryFor table "type.__init__" = some Builtin.«type.__init__» := entryFor_of_tree (by kernel_rfl)
theorem plain_type_new : plainId "type.__new__" = true := by decide +kernel
theorem plain_type_init : plainId "type.__init__" = true := by decide +kernel
theorem slot_type_init : Slot "type" (Str.ofString "__init__") "type.__init__" :=
  .of (owner := "type") (n := "__init__") tc_init (by decide +kernel) (by decide +kernel) (by decide +kernel) (by first | exact .inl (by decide +kernel) | exact .inr (by decide +kernel)) (by rw [isSubtype_type]; kernel_rfl)
theorem args_type_init (o a b c : Value) : argsOk "type.__init__" ⟨[o, a, b, c], []⟩ := by unfold argsOk; kernel_rfl
theorem check_type_new (a b c : Value) : checkBuiltinCall "type.__new__" ⟨[.type "type", a, b, c], []⟩ = pure () := by kernel_rfl
theorem check_type_call (a b c : Value) : checkTypeCall "type" ⟨[a, b, c], []⟩ = pure () := by kernel_rfl
section
variable {prog : Program} {w : World} {A : Around} {E : Value → Shared → Prop} {s : Shared} {Q : Value → Shared → Prop}
theorem ty_call (b n0 : Addr) (kt : Tok) (hnew : wpAny (model prog w) A.in1.in1 (Builtin.«type.__new__» ⟨[.type "type", .str (Str.ofString "K") kt, .ref b, .ref n0], []⟩) (fun fin s' => ∃ c, fin = .done (.ret (.ref c)) ∧ s'.TypeIs (.ref c) "type" ∧ Q (.ref c) s') (fun _ _ => False) s) :
    wpAny (model prog w) A (call (.type "type") [.str (Str.ofString "K") kt, .ref b, .ref n0]) Q E s := by
  refine wpAny_call (codeAny_of_tree ?_)
  show wpAny _ _ (callAny (.type "type") _) _ _ _
  refine wpAny_pure ⟨Code.quiet_builtin _ (by decide +kernel), codeAny_builtin F.entry_type_call ?_⟩
  rw [Around.under_plain (weight_type_call_type "type" _ []) rfl]
  unfold Builtin.«type.__call__»
  dsimp (config := { zeta := false }) only
  refine KFB.if_so (by kernel_rfl) ?_
  refine KFB.if_not rfl ?_
  refine KFB.if_not (by kernel_rfl) ?_
  refine KFB.if_not (by kernel_rfl) ?_
  refine wpAny_bind (m := checkTypeCall "type" _) (wpAny_of_eq (check_type_call _ _ _) ?_)
  refine wpAny_bind (m := mroOf (.type "type")) (wpAny_of_eq tc_mro ?_)
  refine KFB.if_not rfl ?_
  refine wpAny_bind (m := Bind.madeBy (.type "type")) (wpAny_of_eq tc_made ?_)
  refine wpAny_bind (m := pure _) (wpAny_pure ?_)
  refine wpAny_bind (m := holding _ (call (.builtin "type.__new__") _ _)) (wpAny_holding (wpAny_call (codeAny_call_builtin plain_type_new entry_type_new (wpAny_of_eq (check_type_new _ _ _) ?_))))
  refine wpAny_mono hnew (fun fin s' hx => ?_) fun _ _ x => x.elim
  obtain ⟨c, rfl, hT, hq⟩ := hx
  refine wpAny_bind (m := isInstance (.ref c) (.type "type")) (wpAny_isInstance hT sub_type ?_)
  refine KFB.if_not rfl ?_
  refine wpAny_bind (m := holding _ (callSpecial? (.ref c) (Str.ofString "__init__") _ _)) (wpAny_holding (wpAny_callSpecial?_slot hT slot_type_init (wpAny_call_entry slot_type_init hT entry_type_init ?_ (args_type_init _ _ _ _))))
  refine wpAny_of_eq (a := .done (.ret .none)) (by kernel_rfl) ⟨_, rfl, ?_⟩
  refine KFB.if_not rfl ?_
  exact wpAny_pure hq
end
end STC
section STB
open PySem PySem.W PySem.W.X PyProof.Rows PySem.Calls
set_option Elab.async false
set_option maxRecDepth 100000
set_option maxHeartbeats 0
section
variable {prog : Program} {w : World} {A : Around} {E : Value → Shared → Prop} {s : Shared} {Q : Value → Shared → Prop}
/-- a class's code, the first in its table -/
theorem class_code {env : Env} {c P : Addr} {pos : Pos} {fl : Nat} {name qual : Str} {scope : Scope} (hc : env.code = .ref c) (C : CodeHd s.heap c P) (hP : s.heap.get? P = some (tabObj #[]))
    (h : ∀ c' P' h' tk, (∀ b o, b ≠ P → s.heap.get? b = some o → h'.get? b = some o) → h'.get? P = some (tabObj #[rawInt pos.line, rawInt pos.col, .ref c']) → s.heap.objs.size ≤ c' → s.heap.objs.size ≤ P' → h'.CodeRec (.ref c') qual → CodeHd h' c' P' → h'.get? P' = some (tabObj #[]) → Q (.ref c') { s with heap := h', toks := tk }) :
    wpAny (model prog w) A (classCode env pos fl name qual scope) Q E s := by
  obtain ⟨o, vs, file, tf, flags, tg, inF, text, tt, ho, hcl, hd, h11o, h11, h18, h7, h9, h10, hne⟩ := C
  unfold classCode codeAt
  rw [hc, if_neg (show ¬ ((Value.ref c == Value.none) = true) from Bool.false_ne_true)]
  refine wpAny_bind (m := fieldsOf (.ref c)) (wpAny_fieldsOf ho hd ?_)
  rw [h11]
  refine wpAny_bind (m := fieldsOf (.ref P)) (wpAny_fieldsOf hP rfl ?_)
  rw [h18, h7, h9, h10]
  refine wpAny_bind (m := newCode _ _ _ _ _ _ _ _ _ _) (wpAny_newCodeX fun c' P' h' tk hk hc' hP' hcode' htab' hrec' => ?_)
  have hPo := hk _ _ hP
  have cP : P ≠ c' := Nat.ne_of_lt (Nat.lt_of_lt_of_le (Heap.lt_size hP) hc')
  have PP : P ≠ P' := Nat.ne_of_lt (Nat.lt_of_lt_of_le (Heap.lt_size hP) hP')
  refine wpAny_bind (m := updateFieldsOfTheText P _) (wpAny_updateFieldsOfTheText hPo rfl ?_)
  have hg : (h'.update P (Obj.mapFields fun vs => if (codeAmong pos vs.toList).isSome = true then vs else vs ++ #[rawInt pos.line, rawInt pos.col, .ref c'])).get? P = some (tabObj #[rawInt pos.line, rawInt pos.col, .ref c']) :=
    Heap.get?_update_self (o := tabObj #[]) _ hPo rfl
  refine wpAny_bind (m := fieldsOf (.ref P)) (wpAny_fieldsOf hg rfl ?_)
  have hca : codeAmong pos (#[rawInt pos.line, rawInt pos.col, Value.ref c'] : Array Value).toList = some (.ref c') := by simp [codeAmong, rawInt]
  rw [hca]
  have oth : ∀ b o, b ≠ P → h'.get? b = some o → (h'.update P (Obj.mapFields fun vs => if (codeAmong pos vs.toList).isSome = true then vs else vs ++ #[rawInt pos.line, rawInt pos.col, .ref c'])).get? b = some o := fun b o hb e => (Heap.get?_update_other _ _ (Ne.symm hb)).trans e
  obtain ⟨c₂, o₂, vs₂, t₂, e₂, g₂, r₂⟩ := hrec'
  cases e₂
  obtain ⟨⟨oc, vc, hoc, hcc, hdc, h11c⟩, htP⟩ := htab'
  have hcode2 := hcode'.extBut (h' := h'.update P (Obj.mapFields fun vs => if (codeAmong pos vs.toList).isSome = true then vs else vs ++ #[rawInt pos.line, rawInt pos.col, .ref c'])) (fun b o hb e => oth b o hb e) cP.symm PP.symm
  refine wpAny_pure (h c' P' _ tk (fun b o hb e => oth b o hb (hk _ _ e)) hg hc' hP' ⟨c', o₂, vs₂, t₂, rfl, oth _ _ cP.symm g₂, r₂⟩ (CodeHd.of hcode2 ⟨⟨oc, vc, oth _ _ cP.symm hoc, hcc, hdc, h11c⟩, oth _ _ PP.symm htP⟩) (oth _ _ PP.symm htP))
end
end STB
section STD
open PySem PySem.W PySem.W.X PyProof.Rows PySem.Calls
set_option Elab.async false
set_option maxRecDepth 100000
set_option maxHeartbeats 0
/-- the body of the class in its turn: its names at n, its code's table at PP, what it has made in l -/
structure CB (h1 h : Heap) (n PP : Addr) (on : Obj) (ps : Array Value) (l : Led) : Prop where
  keep : ∀ b o, b ≠ n → b ≠ PP → h1.get? b = some o → h.get? b = some o
  gn : h.get? n = some on
  gp : h.get? PP = some (tabObj ps)
  ne : n ≠ PP
  n1 : ∃ o, h1.get? n = some o
  p1 : ∃ o, h1.get? PP = some o
  ex : ∀ p ∈ l, h.get? p.1 = some p.2 ∧ h1.get? p.1 = none
section
variable {h1 h h' : Heap} {n PP : Addr} {on : Obj} {ps : Array Value} {l : Led}
theorem CB.nes (C : CB h1 h n PP on ps l) {p : Addr × Obj} (hp : p ∈ l) : p.1 ≠ n ∧ p.1 ≠ PP := by
  have e := (C.ex p hp).2
  obtain ⟨o, e1⟩ := C.n1
  obtain ⟨o2, e2⟩ := C.p1
  exact ⟨fun q => by (rw [q, e1] at e; cases e), fun q => by (rw [q, e2] at e; cases e)⟩
theorem CB.setN (C : CB h1 h n PP on ps l) (f : Obj → Obj) (hf : (f on).isFreed = false) : CB h1 (h.update n f) n PP (f on) ps l :=
  ⟨fun b o hb hp e => (Heap.get?_update_other _ _ (Ne.symm hb)).trans (C.keep b o hb hp e), Heap.get?_update_self f C.gn hf, (Heap.get?_update_other _ _ C.ne).trans C.gp, C.ne, C.n1, C.p1,
    fun p hp => ⟨(Heap.get?_update_other _ _ (C.nes hp).1.symm).trans (C.ex p hp).1, (C.ex p hp).2⟩⟩
theorem CB.keeps (C : CB h1 h n PP on ps l) (k : ∀ b o, h.get? b = some o → h'.get? b = some o) : CB h1 h' n PP on ps l :=
  ⟨fun b o hb hp e => k _ _ (C.keep b o hb hp e), k _ _ C.gn, k _ _ C.gp, C.ne, C.n1, C.p1, fun p hp => ⟨k _ _ (C.ex p hp).1, (C.ex p hp).2⟩⟩
theorem CB.fresh (C : CB h1 h n PP on ps l) {a : Addr} (ha : h.objs.size ≤ a) : h1.get? a = none := by
  cases e : h1.get? a with
  | none => rfl
  | some o =>
    exfalso
    by_cases hn : a = n
    · subst hn; exact absurd (Heap.lt_size C.gn) (Nat.not_lt.mpr ha)
    · by_cases hp : a = PP
      · subst hp; exact absurd (Heap.lt_size C.gp) (Nat.not_lt.mpr ha)
      · exact absurd (Heap.lt_size (C.keep a o hn hp e)) (Nat.not_lt.mpr ha)
theorem CB.to (C : CB h1 h n PP on ps l) {on' : Obj} (e : on = on') : CB h1 h n PP on' ps l := e ▸ C
end
noncomputable abbrev kScope : Scope := { kind := .class, names := [(Str.ofString "__module__", .local), (Str.ofString "__slots__", .local), (Str.ofString "__init__", .local), (Str.ofString "__lt__", .local), (Str.ofString "__gt__", .local), (Str.ofString "__eq__", .local), (Str.ofString "__le__", .local), (Str.ofString "__ge__", .local), (Str.ofString "__hash__", .local), (Str.ofString "mycmp", .free)], isGenerator := false, isCoroutine := false }
noncomputable abbrev kEnv (n fr cc cell : Addr) : Env := { scope := kScope, locals := n, globals := mainGlobals, qual := Str.ofString "cmp_to_key.<locals>.K.", code := .ref cc, frame := some fr, builtins := builtinsNs, cells := [(Str.ofString "mycmp", cell)] }
section
variable {prog : Program} {w : World} {A : Around} {E : Value → Shared → Prop} {s : Shared} {h1 : Heap} {n PP fr cc cell : Addr} {on : Obj} {ps : Array Value} {l : Led}
theorem cb_set {name : Str} {v : Value} {es : Array DictEntry} {ep : Nat} {Q : Unit → Shared → Prop} (C : CB h1 s.heap n PP on ps l) (hd : on.data = .dict es ep) (ha : aRefKeyMayBeTheName name es = false) (hf : ∀ t, (Obj.putName name (hashOf w name) (.str name t) v on).isFreed = false)
    (h : ∀ h', CB h1 h' n PP (Obj.putName name (hashOf w name) (.str name s.toks) v on) ps l → Q () { s with heap := h', toks := s.toks + 1 }) : wpAny (model prog w) A (nsSet n name v) Q E s := by
  unfold nsSet
  refine wpAny_bind (m := strHash name) (wpAny_bind (m := ask) (wpAny_askSetting (wpAny_pure ?_)))
  refine wpAny_bind (wpAny_mkText ?_)
  refine wpAny_bind (wpAny_loadPart C.gn ?_)
  rw [hd]
  refine KFB.if_not ha ?_
  refine wpAny_updatePart C.gn ?_
  exact h _ (C.setN _ (hf _))
theorem cb_store {name : Str} {v : Value} {es : Array DictEntry} {ep : Nat} {Q : Unit → Shared → Prop} (C : CB h1 s.heap n PP on ps l) (hk : storeName (kEnv n fr cc cell) name v = localSet (kEnv n fr cc cell) name v) (hc : on.cls = .type "dict") (hd : on.data = .dict es ep) (ha : aRefKeyMayBeTheName name es = false) (hf : ∀ t, (Obj.putName name (hashOf w name) (.str name t) v on).isFreed = false)
    (h : ∀ h', CB h1 h' n PP (Obj.putName name (hashOf w name) (.str name s.toks) v on) ps l → Q () { s with heap := h', toks := s.toks + 1 }) : wpAny (model prog w) A (storeName (kEnv n fr cc cell) name v) Q E s := by
  rw [hk]
  unfold localSet
  refine wpAny_bind (m := load n) (wpAny_load C.gn ?_)
  refine KFB.if_so (by rw [hc]; decide) ?_
  exact cb_set C hd ha hf h
theorem cb_fun {name qual : Str} {params : Arguments} {body : List Stmt} {scope : Scope} {pos : Pos} {fl : Nat} {clos : List (Str × Addr)} {mg : Str → Option Value} {Q : Value → Shared → Prop} (C : CB h1 s.heap n PP on ps l) (K : CodeHd h1 cc PP) (hcn : cc ≠ n) (hG : h1.Ns mainGlobals mg) (hGn : mainGlobals ≠ n) (hGP : mainGlobals ≠ PP) (hB : ∃ bm o, mg "__builtins__" = some (.ref bm) ∧ bm ≠ builtinsNs ∧ bm ≠ mainGlobals ∧ bm ≠ n ∧ bm ≠ PP ∧ h1.get? bm = some o ∧ o.cls = .type "module" ∧ o.dict = some builtinsNs ∧ o.data = .plain)
    (hcl : closureFor scope (kEnv n fr cc cell) = pure clos) (ht : TriplesOk ps.toList) (hnf : codeAmong pos ps.toList = none)
    (h : ∀ f c' oc vs t ctv doc h' tk, CB h1 h' n PP on (ps ++ #[rawInt pos.line, rawInt pos.col, .ref c']) ((f, fnMade name qual params body scope clos doc ((mg "__name__").getD .none) c' ctv) :: (c', oc) :: l) → oc.data = .fields vs → vs[1]? = some (.str qual t) → Q (.ref f) { s with heap := h', toks := tk }) :
    wpAny (model prog w) A (makeFunction name qual params (.stmts body) scope (kEnv n fr cc cell) [] [] [] pos fl) Q E s := by
  obtain ⟨o, vs0, file, tf, flags, tg, inF, text, tt, ho, hrest⟩ := K
  have ccP : cc ≠ PP := hrest.2.2.2.2.2.2.2.2
  have K' : CodeHd s.heap cc PP := ⟨o, vs0, file, tf, flags, tg, inF, text, tt, C.keep _ _ hcn ccP ho, hrest⟩
  obtain ⟨bm, ob, b1, b2, b3, b4, b5, b6, b7⟩ := hB
  have hG' : s.heap.Ns mainGlobals mg := let ⟨o, es, ep, e, r⟩ := hG; ⟨o, es, ep, C.keep _ _ hGn hGP e, r⟩
  refine makeFunction_K (mg := mg) hcl rfl hG' rfl K' C.gp ht hnf hGP ⟨bm, ob, b1, b2, b3, b5, C.keep _ _ b4 b5 b6, b7⟩ fun c' ctv doc h' tk hx hge hlt hrec htb => ?_
  obtain ⟨c₂, oc, vs, t, e2, hoc, hd, hv⟩ := hrec
  cases e2
  refine h h'.objs.size c' oc vs t ctv doc _ tk ⟨fun b o hb hp e => Heap.get?_push_of_some _ (hx b o hp (C.keep b o hb hp e)), Heap.get?_push_of_some _ (hx _ _ C.ne C.gn), Heap.get?_push_of_some _ htb, C.ne, C.n1, C.p1, fun p hp => ?_⟩ hd hv
  rcases List.mem_cons.mp hp with rfl | hp
  · exact ⟨Heap.get?_push_size _ rfl, C.fresh (Nat.le_trans hge (Nat.le_of_lt hlt))⟩
  · rcases List.mem_cons.mp hp with rfl | hp
    · exact ⟨Heap.get?_push_of_some _ hoc, C.fresh hge⟩
    · exact ⟨Heap.get?_push_of_some _ (hx _ _ (C.nes hp).2 (C.ex p hp).1), (C.ex p hp).2⟩
end
end STD
section STE
open PySem PySem.W PySem.W.X PyProof.Rows PySem.Calls
set_option Elab.async false
set_option maxRecDepth 100000
set_option maxHeartbeats 0
/-- what a def in the class's body needs of the world around it -/
structure BG (h1 : Heap) (mg : Str → Option Value) (n PP cc : Addr) : Prop where
  K : CodeHd h1 cc PP
  cn : cc ≠ n
  G : h1.Ns mainGlobals mg
  Gn : mainGlobals ≠ n
  GP : mainGlobals ≠ PP
  B : ∃ bm o, mg "__builtins__" = some (.ref bm) ∧ bm ≠ builtinsNs ∧ bm ≠ mainGlobals ∧ bm ≠ n ∧ bm ≠ PP ∧ h1.get? bm = some o ∧ o.cls = .type "module" ∧ o.dict = some builtinsNs ∧ o.data = .plain
noncomputable abbrev nsD (es : Array DictEntry) (ep : Nat) : Obj := { cls := .type "dict", data := .dict es ep }
section
variable {prog : Program} {w : World} {A : Around} {E : Value → Shared → Prop} {s : Shared} {h1 : Heap} {n PP fr cc cell : Addr} {es : Array DictEntry} {ep : Nat} {ps : Array Value} {l : Led} {mg : Str → Option Value}
theorem cb_put {name : Str} {v : Value} {es' : Array DictEntry} {ep' : Nat} {Q : Unit → Shared → Prop} (C : CB h1 s.heap n PP (nsD es ep) ps l) (hk : storeName (kEnv n fr cc cell) name v = localSet (kEnv n fr cc cell) name v) (ha : aRefKeyMayBeTheName name es = false)
    (hp : Obj.putName name (hashOf w name) (.str name s.toks) v (nsD es ep) = nsD es' ep') (hf : ∀ t, (Obj.putName name (hashOf w name) (.str name t) v (nsD es ep)).isFreed = false)
    (h : ∀ h', CB h1 h' n PP (nsD es' ep') ps l → Q () { s with heap := h', toks := s.toks + 1 }) : wpAny (model prog w) A (storeName (kEnv n fr cc cell) name v) Q E s :=
  cb_store (es := es) (ep := ep) C hk rfl rfl ha hf fun h' C' => h h' (hp ▸ C')
theorem cb_def {name qual : Str} {params : Arguments} {body : List Stmt} {scope : Scope} {pos : Pos} {clos : List (Str × Addr)} {Q : Flow → Shared → Prop} (C : CB h1 s.heap n PP (nsD es ep) ps l) (G : BG h1 mg n PP cc)
    (hd0 : params.defaults = []) (hk0 : params.kw_defaults = []) (han : annTrees params none (kEnv n fr cc cell) = []) (hq : qualnameIn (kEnv n fr cc cell) name name = qual)
    (hcl : closureFor scope (kEnv n fr cc cell) = pure clos) (ht : TriplesOk ps.toList) (hnf : codeAmong pos ps.toList = none)
    (hk : ∀ v, storeName (kEnv n fr cc cell) name v = localSet (kEnv n fr cc cell) name v) (ha : aRefKeyMayBeTheName name es = false)
    (hp : ∀ t v, Obj.putName name (hashOf w name) (.str name t) v (nsD es ep) = nsD (es.push ⟨hashOf w name, .str name t, v⟩) (ep + 1))
    (h : ∀ f c' oc vs t tn ctv doc h' tk, CB h1 h' n PP (nsD (es.push ⟨hashOf w name, .str name tn, .ref f⟩) (ep + 1)) (ps ++ #[rawInt pos.line, rawInt pos.col, .ref c']) ((f, fnMade name qual params body scope clos doc ((mg "__name__").getD .none) c' ctv) :: (c', oc) :: l) → oc.data = .fields vs → vs[1]? = some (.str qual t) → Q .next { s with heap := h', toks := tk }) :
    wpAny (model prog w) A (exec (.FunctionDef name params body [] none [] scope none name pos) (kEnv n fr cc cell)) Q E s := by
  refine nestDef_K hd0 hk0 han ?_
  rw [hq]
  refine cb_fun C G.K G.cn G.G G.Gn G.GP G.B hcl ht hnf fun f c' oc vs t ctv doc h' tk C' hd hv => ?_
  exact cb_put C' (hk _) ha (hp _ _) (fun t => by rw [hp]; rfl) fun h'' C'' => h f c' oc vs t _ ctv doc h'' _ C'' hd hv
end
end STE
section STF
open PySem PySem.W PySem.W.X PyProof.Rows PySem.Calls
set_option Elab.async false
set_option maxRecDepth 100000
set_option maxHeartbeats 0
noncomputable abbrev sN (x : String) : Str := Str.ofString x
noncomputable abbrev kPar (a b : String) (p q : Pos) : Arguments := { posonlyargs := [], args := [{ arg := sN a, annotation := none, pos := p }, { arg := sN b, annotation := none, pos := q }], vararg := none, kwonlyargs := [], kw_defaults := [], kwarg := none, defaults := [] }
noncomputable abbrev kSc1 : Scope := { kind := .function, names := [(sN "self", .local), (sN "obj", .local)], isGenerator := false, isCoroutine := false, more := [] }
noncomputable abbrev kSc2 : Scope := { kind := .function, names := [(sN "self", .local), (sN "other", .local), (sN "mycmp", .free)], isGenerator := false, isCoroutine := false, more := [] }
noncomputable abbrev kD (x : String) (par : Arguments) (b : List Stmt) (sc : Scope) (p : Pos) : Stmt := .FunctionDef (sN x) par b [] none [] sc none (sN x) p
noncomputable abbrev kQ (x : String) : Str := Str.ofString ("cmp_to_key.<locals>.K." ++ x)
noncomputable abbrev kFn (x : String) (par : Arguments) (b : List Stmt) (sc : Scope) (cl : List (Str × Addr)) (doc m : Value) (c : Addr) (v : Value) : Obj := fnMade (sN x) (kQ x) par b sc cl doc m c v
noncomputable abbrev kN (w : World) (x : String) (t : Tok) (v : Value) : DictEntry := ⟨hashOf w (sN x), .str (sN x) t, v⟩
theorem CB.push {h1 h : Heap} {n PP : Addr} {on o : Obj} {ps : Array Value} {l : Led} (C : CB h1 h n PP on ps l) (hf : o.isFreed = false) : CB h1 (h.push o) n PP on ps ((h.objs.size, o) :: l) :=
  ⟨fun b o hb hp e => Heap.get?_push_of_some _ (C.keep b o hb hp e), Heap.get?_push_of_some _ C.gn, Heap.get?_push_of_some _ C.gp, C.ne, C.n1, C.p1, fun p hp => by
    rcases List.mem_cons.mp hp with rfl | hp
    · exact ⟨Heap.get?_push_size _ hf, C.fresh (Nat.le_refl _)⟩
    · exact ⟨Heap.get?_push_of_some _ (C.ex p hp).1, (C.ex p hp).2⟩⟩
section
variable {prog : Program} {w : World} {A : Around} {E : Value → Shared → Prop} {s : Shared} {n PP fr cc cell : Addr} {mg : Str → Option Value} {Q : Flow → Shared → Prop}
theorem cb_body {p1 p2 p3 p4 p5 p6 p7 : Pos} {r1 r2 r3 r4 : Pos} {a1 b1 a2 b2 a3 b3 a4 b4 a5 b5 a6 b6 : Pos} {B1 B2 B3 B4 B5 B6 : List Stmt} {v0 v13 v1 : Value} {t0 t13 t1 : Tok} {ep : Nat}
    (C : CB s.heap s.heap n PP (nsD #[kN w "__module__" t0 v0, kN w "__qualname__" t13 v13, kN w "__firstlineno__" t1 v1] ep) #[] []) (G : BG s.heap mg n PP cc)
    (hQ : ∀ (sl f0 f1 f2 f3 f4 f5 c0 c1 c2 c3 c4 c5 : Addr) (o0 o1 o2 o3 o4 o5 : Obj) (vs0 vs1 : Array Value) (s0 s1 u u2 t2 t3 t4 t5 t6 t7 t8 t9 : Tok) (d0 d1 d2 d3 d4 d5 x0 x1 x2 x3 x4 x5 : Value) (h' : Heap) (tk : Nat) (tab : Array Value),
      CB s.heap h' n PP (nsD #[kN w "__module__" t0 (.str (sN "cpy313.functools") u), kN w "__qualname__" t13 v13, kN w "__firstlineno__" t1 v1, kN w "__slots__" t2 (.ref sl), kN w "__init__" t3 (.ref f0), kN w "__lt__" t4 (.ref f1), kN w "__gt__" t5 (.ref f2), kN w "__eq__" t6 (.ref f3), kN w "__le__" t7 (.ref f4), kN w "__ge__" t8 (.ref f5), kN w "__hash__" t9 .none] (ep + 8)) tab
        [(f5, kFn "__ge__" (kPar "self" "other" a6 b6) B6 kSc2 [(sN "mycmp", cell)] d5 ((mg "__name__").getD .none) c5 x5), (c5, o5), (f4, kFn "__le__" (kPar "self" "other" a5 b5) B5 kSc2 [(sN "mycmp", cell)] d4 ((mg "__name__").getD .none) c4 x4), (c4, o4), (f3, kFn "__eq__" (kPar "self" "other" a4 b4) B4 kSc2 [(sN "mycmp", cell)] d3 ((mg "__name__").getD .none) c3 x3), (c3, o3), (f2, kFn "__gt__" (kPar "self" "other" a3 b3) B3 kSc2 [(sN "mycmp", cell)] d2 ((mg "__name__").getD .none) c2 x2), (c2, o2), (f1, kFn "__lt__" (kPar "self" "other" a2 b2) B2 kSc2 [(sN "mycmp", cell)] d1 ((mg "__name__").getD .none) c1 x1), (c1, o1), (f0, kFn "__init__" (kPar "self" "obj" a1 b1) B1 kSc1 [] d0 ((mg "__name__").getD .none) c0 x0), (c0, o0), (sl, { cls := .type "list", data := .seq #[.str (sN "obj") u2] })] →
      o0.data = .fields vs0 → vs0[1]? = some (.str (kQ "__init__") s0) → o1.data = .fields vs1 → vs1[1]? = some (.str (kQ "__lt__") s1) → Q .next { s with heap := h', toks := tk }) :
    wpAny (model prog w) A (execs [.Assign [.Name (sN "__module__") p1] (.Constant (.str (sN "cpy313.functools")) 0 p2) p3, .Assign [.Name (sN "__slots__") p4] (.List [.Constant (.str (sN "obj")) 0 p5] p6) p7,
      kD "__init__" (kPar "self" "obj" a1 b1) B1 kSc1 ⟨92, 8, 93, 26⟩, kD "__lt__" (kPar "self" "other" a2 b2) B2 kSc2 ⟨95, 8, 96, 49⟩, kD "__gt__" (kPar "self" "other" a3 b3) B3 kSc2 ⟨98, 8, 99, 49⟩, kD "__eq__" (kPar "self" "other" a4 b4) B4 kSc2 ⟨101, 8, 102, 50⟩,
      kD "__le__" (kPar "self" "other" a5 b5) B5 kSc2 ⟨104, 8, 105, 50⟩, kD "__ge__" (kPar "self" "other" a6 b6) B6 kSc2 ⟨107, 8, 108, 50⟩, .Assign [.Name (sN "__hash__") r1] (.Constant .none 0 r2) r3] (kEnv n fr cc cell)) Q E s := by
  refine wpAny_execs_cons (wpAny_Assign_Name (wpAny_Constant_str ?_))
  refine cb_put (es' := #[kN w "__module__" t0 (.str (sN "cpy313.functools") s.toks), kN w "__qualname__" t13 v13, kN w "__firstlineno__" t1 v1]) (ep' := ep) C rfl (by kernel_rfl) (by kernel_rfl) (fun _ => by kernel_rfl) fun h1 C1 => ?_
  refine wpAny_execs_cons (wpAny_Assign_Name (wpAny_List_spliced (args_cons (wpAny_Constant_str (args_nil ⟨(by show 1 ≤ sizeLine; decide +kernel), ?_⟩)))))
  have C2 := C1.push (o := { cls := .type "list", data := .seq #[.str (sN "obj") (s.toks + 1 + 1)] }) rfl
  generalize hsl : h1.objs.size = sl at C2
  refine cb_put (es' := #[kN w "__module__" t0 (.str (sN "cpy313.functools") s.toks), kN w "__qualname__" t13 v13, kN w "__firstlineno__" t1 v1, kN w "__slots__" (s.toks + 1 + 1 + 1) (.ref sl)]) (ep' := ep + 1) C2 rfl (by kernel_rfl) (by kernel_rfl) (fun _ => by kernel_rfl) fun h2 C3 => ?_
  clear C C1 C2
  refine wpAny_execs_cons (cb_def (qual := kQ "__init__") (clos := []) C3 G rfl rfl rfl (by kernel_rfl) (by kernel_rfl) (by simp [TriplesOk, rawInt]) (by kernel_rfl) (fun _ => rfl) (by kernel_rfl) (fun _ _ => by kernel_rfl) fun f0 c0 o0 vs0 s0 t3 x0 d0 h3 tk0 C4 e0 g0 => ?_)
  clear C3
  refine wpAny_execs_cons (cb_def (qual := kQ "__lt__") (clos := [(sN "mycmp", cell)]) C4 G rfl rfl rfl (by kernel_rfl) (by kernel_rfl) (by simp [TriplesOk, rawInt]) (by kernel_rfl) (fun _ => rfl) (by kernel_rfl) (fun _ _ => by kernel_rfl) fun f1 c1 o1 vs1 s1 t4 x1 d1 h4 tk1 C5 e1 g1 => ?_)
  clear C4
  refine wpAny_execs_cons (cb_def (qual := kQ "__gt__") (clos := [(sN "mycmp", cell)]) C5 G rfl rfl rfl (by kernel_rfl) (by kernel_rfl) (by simp [TriplesOk, rawInt]) (by kernel_rfl) (fun _ => rfl) (by kernel_rfl) (fun _ _ => by kernel_rfl) fun f2 c2 o2 vs2 s2 t5 x2 d2 h5 tk2 C6 e2 g2 => ?_)
  clear C5
  refine wpAny_execs_cons (cb_def (qual := kQ "__eq__") (clos := [(sN "mycmp", cell)]) C6 G rfl rfl rfl (by kernel_rfl) (by kernel_rfl) (by simp [TriplesOk, rawInt]) (by kernel_rfl) (fun _ => rfl) (by kernel_rfl) (fun _ _ => by kernel_rfl) fun f3 c3 o3 vs3 s3 t6 x3 d3 h6 tk3 C7 e3 g3 => ?_)
  clear C6
  refine wpAny_execs_cons (cb_def (qual := kQ "__le__") (clos := [(sN "mycmp", cell)]) C7 G rfl rfl rfl (by kernel_rfl) (by kernel_rfl) (by simp [TriplesOk, rawInt]) (by kernel_rfl) (fun _ => rfl) (by kernel_rfl) (fun _ _ => by kernel_rfl) fun f4 c4 o4 vs4 s4 t7 x4 d4 h7 tk4 C8 e4 g4 => ?_)
  clear C7
  refine wpAny_execs_cons (cb_def (qual := kQ "__ge__") (clos := [(sN "mycmp", cell)]) C8 G rfl rfl rfl (by kernel_rfl) (by kernel_rfl) (by simp [TriplesOk, rawInt]) (by kernel_rfl) (fun _ => rfl) (by kernel_rfl) (fun _ _ => by kernel_rfl) fun f5 c5 o5 vs5 s5 t8 x5 d5 h8 tk5 C9 e5 g5 => ?_)
  clear C8
  refine wpAny_execs_cons (wpAny_Assign_Name (wpAny_Constant_none ?_))
  refine cb_put (es' := #[kN w "__module__" t0 (.str (sN "cpy313.functools") s.toks), kN w "__qualname__" t13 v13, kN w "__firstlineno__" t1 v1, kN w "__slots__" (s.toks + 1 + 1 + 1) (.ref sl), kN w "__init__" t3 (.ref f0), kN w "__lt__" t4 (.ref f1), kN w "__gt__" t5 (.ref f2), kN w "__eq__" t6 (.ref f3), kN w "__le__" t7 (.ref f4), kN w "__ge__" t8 (.ref f5), kN w "__hash__" tk5 .none]) (ep' := ep + 8) C9 rfl (by kernel_rfl) (by kernel_rfl) (fun _ => by kernel_rfl) fun h9 C10 => ?_
  exact wpAny_pure (hQ sl f0 f1 f2 f3 f4 f5 c0 c1 c2 c3 c4 c5 o0 o1 o2 o3 o4 o5 vs0 vs1 s0 s1 _ _ _ _ _ _ _ _ _ _ d0 d1 d2 d3 d4 d5 x0 x1 x2 x3 x4 x5 h9 _ _ C10 e0 g0 e1 g1)
end
end STF
section STH
open PySem PySem.W PySem.W.X PyProof.Rows PySem.Calls
set_option Elab.async false
set_option maxRecDepth 100000
set_option maxHeartbeats 0
theorem eq_cast {p q : Prop} (e : p = q) (h : p) : q := e ▸ h
set_option hygiene false in
local macro_rules | `(tactic| x_close) => `(tactic| ((try rename Mem _ _ _ _ => D9); first | exact hQ9 _ _ (eq_cast (by kernel_rfl) (grew_of D9)) | fail "x_close"))
section
variable {prog : Program} {w : World} {A : Around} {s : Shared} {Q : Value → Shared → Prop} {E : Value → Shared → Prop}
noncomputable abbrev prepObj : Obj := { cls := .type "builtin_function_or_method", data := .fields #[.builtin "type.__prepare__", .type "type"] }
theorem prep_get (tk : Tok) (hQ9 : ∀ a h', Grew s.heap h' [(a, prepObj)] → Q (.ref a) { s with heap := h' }) :
   wpAny (model prog w) AZ (call (.builtin "type.__getattribute__") [.type "type", .str (Str.ofString "__prepare__") tk]) Q (fun _ _ => False) s := by
  x_run
theorem prep_call (a b : Addr) (kt : Tok) (ha : s.heap.get? a = some ⟨.type "builtin_function_or_method", none, .fields #[.builtin "type.__prepare__", .type "type"], #[]⟩) (hb : s.heap.get? b = some ⟨.type "tuple", none, .seq #[.type "object"], #[]⟩) (hQ9 : ∀ a h', Grew s.heap h' [(a, nsD #[] 0)] → Q (.ref a) { s with heap := h' }) :
   wpAny (model prog w) AZ (call (.ref a) [.str (Str.ofString "K") kt, .ref b]) Q (fun _ _ => False) s := by
  x_run
end
section
variable {prog : Program} {w : World} {A : Around} {E : Value → Shared → Prop} {s : Shared}
theorem lookup_type_ga : typeLookup (.type "type") (Str.ofString "__getattribute__") = pure (some (.builtin "type.__getattribute__")) := by rw [typeLookup_type, builtinLookup_eq_fast]; kernel_rfl
theorem typeOf_type : typeOf (.type "type") = pure (.type "type") := by kernel_rfl
theorem prep_attr {Q : Option Value → Shared → Prop} (r : Room A) (h : ∀ a h', Grew s.heap h' [(a, prepObj)] → Q (some (.ref a)) { s with heap := h', toks := s.toks + 1 }) :
    wpAny (model prog w) A (getAttr? (.type "type") (Str.ofString "__prepare__")) Q E s := by
  unfold getAttr?
  refine wpAny_bind (wpAny_mkText ?_)
  unfold getAttrBy?
  refine wpAny_bind (wpAny_attempt ?_)
  unfold getAttrBy
  refine wpAny_holding ?_
  refine wpAny_bind (m := typeOf (.type "type")) (wpAny_of_eq typeOf_type ?_)
  refine wpAny_bind (wpAny_of_eq lookup_type_ga ?_)
  dsimp only
  rw [if_neg (by decide)]
  unfold getAttrByItsOwn
  refine wpAny_bind (wpAny_of_eq (a := none) rfl ?_)
  refine wpAny_bind (wpAny_attempt ?_)
  unfold callGetattribute boundAndCalled
  rw [if_neg (by simp [onTheHeap])]
  refine wpAny_bind (m := bindSpecial (.builtin "type.__getattribute__") (.type "type")) (wpAny_of_eq (a := (.builtin "type.__getattribute__", [.type "type"])) (by kernel_rfl) ?_)
  exact wkz r (prep_get _ fun a h' G => wpAny_pure (wpAny_pure (h a h' G)))
end
end STH
section STI
open PySem PySem.W PySem.W.X PyProof.Rows PySem.Calls
set_option Elab.async false
set_option maxRecDepth 100000
set_option maxHeartbeats 0
section
variable {prog : Program} {w : World} {A : Around} {E : Value → Shared → Prop} {s : Shared} {h1 : Heap} {n PP fr cc cell : Addr} {ps : Array Value} {l : Led} {mg : Str → Option Value}
/-- the module's name read in the class's body, whose names are still empty -/
theorem cl_name {v : Value} {Q : Value → Shared → Prop} (C : CB h1 s.heap n PP (nsD #[] 0) ps l) (hG : s.heap.Ns mainGlobals mg) (hv : mg (Str.ofString "__name__") = some v) (h : Q v s) :
    wpAny (model prog w) A (loadName (kEnv n fr cc cell) (Str.ofString "__name__")) Q E s := by
  have e : loadName (kEnv n fr cc cell) (Str.ofString "__name__") = (do
      if let some v ← localGet (kEnv n fr cc cell) (Str.ofString "__name__") then return v
      loadGlobal (kEnv n fr cc cell) (Str.ofString "__name__")) := by kernel_rfl
  rw [e]
  refine wpAny_bind (m := localGet _ _) ?_
  unfold localGet
  refine wpAny_bind (m := load n) (wpAny_load C.gn ?_)
  refine KFB.if_so (by kernel_rfl) ?_
  refine wpAny_bind (m := loadPart n _) (wpAny_loadPart C.gn (wpAny_of_eq (a := none) (by kernel_rfl) ?_))
  exact loadGlobal_global hG hv h
end
end STI
section STG
open PySem PySem.W PySem.W.X PyProof.Rows PySem.Calls
set_option Elab.async false
set_option maxRecDepth 100000
set_option maxHeartbeats 0
theorem bc_isType : isType (.type "object") = pure true := by kernel_rfl
theorem bc_isType2 : isType (.type "type") = pure true := by kernel_rfl
theorem bc_typeOf : typeOf (.type "object") = pure (.type "type") := by kernel_rfl
theorem bc_gi : typeLookup (.type "dict") (Str.ofString "__getitem__") = pure (some (.builtin "dict.__getitem__")) := by rw [typeLookup_type, builtinLookup_eq_fast]; kernel_rfl
theorem bc_sub : isSubtype (.type "type") (.type "type") = pure true := by kernel_rfl
theorem mem_nth {α : Type} {l : List α} {a : α} (i : Nat) (h : l[i]? = some a) : a ∈ l := List.mem_of_getElem? h
section
variable {prog : Program} {w : World} {A : Around} {E : Value → Shared → Prop} {s : Shared} {Q : Value → Shared → Prop}
theorem bc_start {p1 p2 p3 p4 p5 p6 p7 : Pos} {r1 r2 r3 : Pos} {a1 b1' a2 b2' a3 b3' a4 b4' a5 b5' a6 b6' : Pos} {B1 B2 B3 B4 B5 B6 : List Stmt}   {env : Env} {pos : Pos} (r : Room A) (hl : s.heap.NoLimit) (hM : ∃ o, s.heap.get? sysModules = some o) {c P : Addr} (hc : env.code = .ref c) (C : CodeHd s.heap c P) (hP : s.heap.get? P = some (tabObj #[]))
    {mg : Str → Option Value} {mv : Value} (hmv : mg (Str.ofString "__name__") = some mv) {bm : Addr} {ob : Obj} (hg : env.globals = mainGlobals) {cell : Addr} (hSt : s.heap.get? cStatics = some statObj) (rm2 : Room A.in1.in1) (rm3 : Room A.in1.in1.in1)
    (hQ : ∀ (c n' md sl f0 f1 f2 f3 f4 f5 st c0 c1 cc b : Addr) (o0 o1 : Obj) (vs0 vs1 : Array Value) (s0 s1 u tm to td : Tok) (d0 d1 x0 x1 : Value) (tt : Nat → Tok) (u1 u2 kt : Tok) (h' : Heap) (tk : Nat), (∀ b o, b ≠ P → s.heap.get? b = some o → h'.get? b = some o) → h'.get? P = some (tabObj #[rawInt pos.line, rawInt pos.col, .ref cc]) → (∀ p ∈ [(c, clsD c n' b kt (tt 14)), (n', nsC w.params tt u1 u2 to td sl f0 f1 f2 f3 f4 f5 st md), (md, kmd c tm), (b, ({ cls := .type "tuple", data := .seq #[.type "object"] } : Obj)), (f1, kFn "__lt__" (kPar "self" "other" a2 b2') B2 kSc2 [(sN "mycmp", cell)] d1 ((mg "__name__").getD .none) c1 x1), (c1, o1), (f0, kFn "__init__" (kPar "self" "obj" a1 b1') B1 kSc1 [] d0 ((mg "__name__").getD .none) c0 x0), (c0, o0)], h'.get? p.1 = some p.2 ∧ s.heap.get? p.1 = none) → o0.data = .fields vs0 → vs0[1]? = some (.str (kQ "__init__") s0) → o1.data = .fields vs1 → vs1[1]? = some (.str (kQ "__lt__") s1) → Q (.ref c) { s with heap := h', toks := tk })
    (hcl : closureFor kScope env = pure [(Str.ofString "mycmp", cell)]) (hd : A.depth < recursionLimit) (hG : s.heap.Ns mainGlobals mg) (gP : mainGlobals ≠ P) (sP : cStatics ≠ P) (hb : mg "__builtins__" = some (.ref bm)) (b1 : bm ≠ builtinsNs) (b2 : bm ≠ mainGlobals) (bP : bm ≠ P) (b3 : s.heap.get? bm = some ob) (b4 : ob.cls = .type "module") (b5 : ob.dict = some builtinsNs) (b6 : ob.data = .plain) :
    wpAny (model prog w) A (buildClass (Str.ofString "K") (Str.ofString "cmp_to_key.<locals>.K") [.type "object"] [] [.Assign [.Name (sN "__module__") p1] (.Constant (.str (sN "cpy313.functools")) 0 p2) p3, .Assign [.Name (sN "__slots__") p4] (.List [.Constant (.str (sN "obj")) 0 p5] p6) p7,
      kD "__init__" (kPar "self" "obj" a1 b1') B1 kSc1 ⟨92, 8, 93, 26⟩, kD "__lt__" (kPar "self" "other" a2 b2') B2 kSc2 ⟨95, 8, 96, 49⟩, kD "__gt__" (kPar "self" "other" a3 b3') B3 kSc2 ⟨98, 8, 99, 49⟩, kD "__eq__" (kPar "self" "other" a4 b4') B4 kSc2 ⟨101, 8, 102, 50⟩,
      kD "__le__" (kPar "self" "other" a5 b5') B5 kSc2 ⟨104, 8, 105, 50⟩, kD "__ge__" (kPar "self" "other" a6 b6') B6 kSc2 ⟨107, 8, 108, 50⟩, .Assign [.Name (sN "__hash__") r1] (.Constant .none 0 r2) r3] kScope [Str.ofString "obj"] 88 env pos none) Q E s := by
  refine wpAny_bind (m := newTuple [.type "object"]) (wpAny_newTuple ?_ (by show 1 ≤ sizeLine; decide +kernel))
  refine wpAny_bind (m := forIn _ _ _) (for1 (wpAny_bind (m := isType (.type "object")) (wpAny_of_eq bc_isType ?_)))
  refine KFB.if_so rfl ?_
  refine pIf_not (by decide) ?_
  refine wpAny_pure ?_
  refine wpAny_bind (m := typeOf (.type "object")) (wpAny_of_eq bc_typeOf ?_)
  refine wpAny_bind (m := isType (.type "type")) (wpAny_of_eq bc_isType2 ?_)
  refine KFB.if_so rfl ?_
  refine wpAny_bind (m := forIn _ _ _) (for1 (wpAny_bind (m := typeOf (.type "object")) (wpAny_of_eq bc_typeOf ?_)))
  refine wpAny_bind (m := isSubtype (.type "type") (.type "type")) (wpAny_of_eq bc_sub ?_)
  refine KFB.if_so rfl ?_
  refine wpAny_pure ?_
  refine wpAny_bind (m := mkText (Str.ofString "K")) (wpAny_mkText ?_)
  refine KFB.if_not rfl ?_
  refine wpAny_bind (m := pure (Value.ref s.heap.objs.size)) (wpAny_pure ?_)
  refine wpAny_holding ?_
  show wpAny _ _ _ _ _ { s with heap := s.heap.push { cls := .type "tuple", data := .seq #[.type "object"] }, toks := _ }
  refine wpAny_bind (m := getAttr? (.type "type") _) (prep_attr r fun a h2 G2 => ?_)
  show wpAny _ _ _ _ _ { s with heap := h2, toks := _ }
  refine wpAny_bind (m := call (.ref a) _ _) (wkz r (prep_call a s.heap.objs.size _ (G2.2.1 (a, prepObj) (List.Mem.head _)).1 (G2.1 _ _ (Heap.get?_push_size _ rfl)) fun n h3 G3 => ?_))
  show wpAny _ _ _ _ _ { s with heap := h3, toks := _ }
  have gn3 : h3.get? n = some (nsD #[] 0) := (G3.2.1 (n, nsD #[] 0) (List.Mem.head _)).1
  have nM : n ≠ sysModules := by
    rintro rfl
    obtain ⟨o, e⟩ := hM
    have e1 := (G3.2.1 (sysModules, nsD #[] 0) (List.Mem.head _)).2
    rw [show _ = some o from G2.1 _ _ (Heap.get?_push_of_some _ e)] at e1
    cases e1
  refine wpAny_bind (m := notTheModulesDict "class:the-namespace-that-__prepare__-gave" n) ?_
  unfold notTheModulesDict
  refine KFB.if_not (by simpa using nM) (wpAny_pure ?_)
  refine wpAny_bind (m := specialOf (.ref n) _) (wpAny_specialOf (T := "dict") ⟨_, gn3, rfl⟩ bc_gi ?_)
  refine KFB.if_not rfl ?_
  refine wpAny_holding ?_
  refine KFB.if_not (by kernel_rfl) ?_
  refine wpAny_bind (m := pure _) (wpAny_pure ?_)
  refine KFB.if_not (by kernel_rfl) ?_
  refine wpAny_bind (m := pure _) (wpAny_pure ?_)
  have k3 : ∀ b o, s.heap.get? b = some o → h3.get? b = some o := fun b o e => G3.1 _ _ (G2.1 _ _ (Heap.get?_push_of_some _ e))
  refine wpAny_bind (m := classCode env pos 88 _ _ kScope) (class_code hc (C.keeps k3) (k3 _ _ hP) fun c' P' h4 tk4 k4 gp4 lc lP hrec C4 gp4' => ?_)
  show wpAny _ _ _ _ _ { s with heap := h4, toks := _ }
  rw [hg]
  have G4 : h4.Ns mainGlobals mg := let ⟨o, es, ep, e, r⟩ := hG; ⟨o, es, ep, k4 _ _ gP (k3 _ _ e), r⟩
  refine wpAny_bind (m := builtinsFor mainGlobals env.builtins) (wpAny_builtinsFor G4 hb b1 (k4 _ _ bP (k3 _ _ b3)) b4 b5 b6 ?_)
  refine wpAny_bind (m := newBodyFrame (.ref c') mainGlobals n builtinsNs) (wpAny_bind (m := nsGet mainGlobals _) (wpAny_nsGet G4 (wpAny_alloc ?_)))
  refine wpAny_bind (m := closureFor kScope env) (wpAny_of_eq hcl ?_)
  refine wpAny_holding ?_
  have hl5 : (h4.push { cls := .type "frame", slots := #[some (.ref c'), some (.ref mainGlobals), some (.ref n), none, some ((mg (Str.ofString "__name__")).getD .none), none, some (.ref builtinsNs)] }).NoLimit :=
    Heap.NoLimit.push (let ⟨mc, hn, q⟩ := hl; ⟨mc, (let ⟨o, es, ep, e, r⟩ := hn; ⟨o, es, ep, k4 _ _ sP (k3 _ _ e), r⟩), q⟩) _
  refine wpAny_bind (m := enterFrame) (wpAny_enterFrame hl5 hd ?_)
  have nP' : n ≠ P' := Nat.ne_of_lt (Nat.lt_of_lt_of_le (Heap.lt_size gn3) lP)
  have nP : n ≠ P := by
    rintro rfl
    have e1 := (G3.2.1 (n, nsD #[] 0) (List.Mem.head _)).2
    rw [show _ = some (tabObj #[]) from G2.1 _ _ (Heap.get?_push_of_some _ hP)] at e1
    cases e1
  have gNn : mainGlobals ≠ n := fun q => by
    obtain ⟨o, es, ep, e, r⟩ := hG
    have e1 := (G3.2.1 (n, nsD #[] 0) (List.Mem.head _)).2
    rw [← q, show _ = some o from G2.1 _ _ (Heap.get?_push_of_some _ e)] at e1
    cases e1
  have gNP' : mainGlobals ≠ P' := Nat.ne_of_lt (Nat.lt_of_lt_of_le (let ⟨o, es, ep, e, r⟩ := hG; Heap.lt_size (k3 _ _ e)) lP)
  have hc'n : c' ≠ n := Nat.ne_of_gt (Nat.lt_of_lt_of_le (Heap.lt_size gn3) lc)
  have bmn : bm ≠ n := fun q => by
    have e1 := (G3.2.1 (n, nsD #[] 0) (List.Mem.head _)).2
    rw [← q, show _ = some ob from G2.1 _ _ (Heap.get?_push_of_some _ b3)] at e1
    cases e1
  have bmP' : bm ≠ P' := Nat.ne_of_lt (Nat.lt_of_lt_of_le (Heap.lt_size (k3 _ _ b3)) lP)
  have gn4 := k4 _ _ nP gn3
  generalize hfo : ({ cls := .type "frame", slots := #[some (.ref c'), some (.ref mainGlobals), some (.ref n), none, some ((mg (Str.ofString "__name__")).getD .none), none, some (.ref builtinsNs)] } : Obj) = fo at hl5 ⊢
  have p5 : ∀ b o, h4.get? b = some o → (h4.push fo).get? b = some o := fun b o e => Heap.get?_push_of_some _ e
  generalize hh5 : h4.push fo = h5 at hl5 p5 ⊢
  show wpAny _ _ _ _ _ { s with heap := h5, toks := _ }
  clear hfo hh5
  have hE : (Str.ofString "cmp_to_key.<locals>.K" ++ Str.ofString "." : Str) = Str.ofString "cmp_to_key.<locals>.K." := by kernel_rfl
  rw [hE]
  have C0 : CB h5 h5 n P' (nsD #[] 0) #[] [] := ⟨fun _ _ _ _ e => e, p5 _ _ gn4, p5 _ _ gp4', nP', ⟨_, p5 _ _ gn4⟩, ⟨_, p5 _ _ gp4'⟩, fun _ h => (List.not_mem_nil h).elim⟩
  have G5 : h5.Ns mainGlobals mg := let ⟨o, es, ep, e, r⟩ := G4; ⟨o, es, ep, p5 _ _ e, r⟩
  refine wpAny_bind (m := Sem.onRaise _ _) (wpAny_onRaise ?_)
  refine wpAny_bind (m := loadName (kEnv n h4.objs.size c' cell) (Str.ofString "__name__")) (cl_name C0 G5 hmv ?_)
  refine wpAny_bind (m := storeName (kEnv n h4.objs.size c' cell) (Str.ofString "__module__") mv) (cb_put (es' := #[kN w "__module__" tk4 mv]) (ep' := 1) C0 rfl (by kernel_rfl) (by kernel_rfl) (fun _ => by kernel_rfl) fun h6 C1 => ?_)
  show wpAny _ _ _ _ _ { s with heap := h6, toks := tk4 + 1 }
  refine wpAny_bind (m := mkText _) (wpAny_mkText ?_)
  refine wpAny_bind (m := storeName (kEnv n h4.objs.size c' cell) (Str.ofString "__qualname__") _) (cb_put (es' := #[kN w "__module__" tk4 mv, kN w "__qualname__" (tk4 + 1 + 1) (.str QN (tk4 + 1))]) (ep' := 2) C1 rfl (by kernel_rfl) (by kernel_rfl) (fun _ => by kernel_rfl) fun h7 C2 => ?_)
  show wpAny _ _ _ _ _ { s with heap := h7, toks := tk4 + 1 + 1 + 1 }
  refine wpAny_bind (m := mkInt _) (wpAny_mkInt ?_)
  refine wpAny_bind (m := storeName (kEnv n h4.objs.size c' cell) (Str.ofString "__firstlineno__") _) (cb_put (es' := #[kN w "__module__" tk4 mv, kN w "__qualname__" (tk4 + 1 + 1) (.str QN (tk4 + 1)), kN w "__firstlineno__" (tk4 + 1 + 1 + 1 + 1) (.int 88 (tk4 + 1 + 1 + 1))]) (ep' := 3) C2 rfl (by kernel_rfl) (by kernel_rfl) (fun _ => by kernel_rfl) fun h8 C3 => ?_)
  show wpAny _ _ _ _ _ { s with heap := h8, toks := tk4 + 1 + 1 + 1 + 1 + 1 }
  refine wpAny_pure ?_
  have K8 : CodeHd h8 c' P' := by
    obtain ⟨o, vs0, file, tf, flags, tg, inF, text, tt, ho, hrest⟩ := C4
    exact ⟨o, vs0, file, tf, flags, tg, inF, text, tt, C3.keep _ _ hc'n hrest.2.2.2.2.2.2.2.2 (p5 _ _ ho), hrest⟩
  have G8 : h8.Ns mainGlobals mg := let ⟨o, es, ep, e, r⟩ := G5; ⟨o, es, ep, C3.keep _ _ gNn gNP' e, r⟩
  have BG8 : BG h8 mg n P' c' := ⟨K8, hc'n, G8, gNn, gNP', bm, ob, hb, b1, b2, bmn, bmP', C3.keep _ _ bmn bmP' (p5 _ _ (k4 _ _ bP (k3 _ _ b3))), b4, b5, b6⟩
  have C8 : CB h8 h8 n P' (nsD #[kN w "__module__" tk4 mv, kN w "__qualname__" (tk4 + 1 + 1) (.str QN (tk4 + 1)), kN w "__firstlineno__" (tk4 + 1 + 1 + 1 + 1) (.int 88 (tk4 + 1 + 1 + 1))] 3) #[] [] := ⟨fun _ _ _ _ e => e, C3.gn, C3.gp, C3.ne, ⟨_, C3.gn⟩, ⟨_, C3.gp⟩, fun _ h => (List.not_mem_nil h).elim⟩
  refine wpAny_bind (m := run (.body _ (kEnv n h4.objs.size c' cell)) none) (wpAny_run (codeAny_body rfl rfl (cb_body (r4 := r3) C8 BG8 ?_)))
  intro sl f0 f1 f2 f3 f4 f5 c0 c1 c2 c3 c4 c5 o0 o1 o2 o3 o4 o5 vs0 vs1 s0 s1 u u2 t2 t3 t4 t5 t6 t7 t8 t9 d0 d1 d2 d3 d4 d5 x0 x1 x2 x3 x4 x5 h9 tk9 tab C9 e0 e1 e2 e3
  show wpAny _ _ _ _ _ { s with heap := h9, toks := tk9 }
  refine wpAny_bind (m := Sem.onRaise _ _) (wpAny_onRaise ?_)
  refine wpAny_bind (m := List.mapM mkText [Str.ofString "obj"]) ?_
  rw [List.mapM_cons, List.mapM_nil]
  refine wpAny_bind (wpAny_mkText (wpAny_bind (wpAny_pure (wpAny_pure ?_))))
  refine wpAny_bind (m := newTextTuple _) (wpAny_newTextTuple ?_)
  have C10 := C9.push (o := { cls := .type "tuple", data := .seq #[.str (Str.ofString "obj") tk9] }) rfl
  generalize hst : h9.objs.size = st at C10
  generalize hh10 : h9.push { cls := .type "tuple", data := .seq #[.str (Str.ofString "obj") tk9] } = h10 at C10
  show wpAny _ _ _ _ _ { s with heap := h10, toks := tk9 + 1 }
  clear hst hh10
  refine wpAny_bind (m := storeName (kEnv n h4.objs.size c' cell) (Str.ofString "__static_attributes__") (.ref st)) (cb_put (es' := #[kN w "__module__" tk4 (.str (sN "cpy313.functools") u), kN w "__qualname__" (tk4 + 1 + 1) (.str QN (tk4 + 1)), kN w "__firstlineno__" (tk4 + 1 + 1 + 1 + 1) (.int 88 (tk4 + 1 + 1 + 1)), kN w "__slots__" t2 (.ref sl), kN w "__init__" t3 (.ref f0), kN w "__lt__" t4 (.ref f1), kN w "__gt__" t5 (.ref f2), kN w "__eq__" t6 (.ref f3), kN w "__le__" t7 (.ref f4), kN w "__ge__" t8 (.ref f5), kN w "__hash__" t9 .none, kN w "__static_attributes__" (tk9 + 1) (.ref st)]) (ep' := 3 + 8 + 1) C10 rfl (by kernel_rfl) (by kernel_rfl) (fun _ => by kernel_rfl) fun h11 C11 => ?_)
  show wpAny _ _ _ _ _ { s with heap := h11, toks := tk9 + 1 + 1 }
  refine wpAny_pure ?_
  refine KFB.if_not rfl ?_
  let tt : Nat → Tok := fun i => [tk4, tk4 + 1 + 1 + 1 + 1, t2, t3, t4, t5, t6, t7, t8, t9, tk9 + 1, 0, 0, tk4 + 1 + 1, tk4 + 1].getD i 0
  have nb : ∀ b o, s.heap.get? b = some o → b ≠ n := fun b o e q => by
    have e1 := (G3.2.1 (n, nsD #[] 0) (List.Mem.head _)).2
    rw [← q, show _ = some o from G2.1 _ _ (Heap.get?_push_of_some _ e)] at e1
    cases e1
  have nbP : ∀ b o, h3.get? b = some o → b ≠ P' := fun b o e => Nat.ne_of_lt (Nat.lt_of_lt_of_le (Heap.lt_size e) lP)
  have k4' : ∀ b o, b ≠ n → b ≠ P' → h4.get? b = some o → h11.get? b = some o := fun b o hn hP' e => C11.keep _ _ hn hP' (C3.keep _ _ hn hP' (p5 _ _ e))
  have k11 : ∀ b o, b ≠ P → s.heap.get? b = some o → h11.get? b = some o := fun b o hb e => k4' _ _ (nb _ _ e) (nbP _ _ (k3 _ _ e)) (k4 _ _ hb (k3 _ _ e))
  have gP11 : h11.get? P = some (tabObj #[rawInt pos.line, rawInt pos.col, .ref c']) := k4' _ _ nP.symm (nbP _ _ (k3 _ _ hP)) gp4
  have fr11 : ∀ a, h11.get? a = none → s.heap.get? a = none := fun a e => by
    cases q : s.heap.get? a with
    | none => rfl
    | some o =>
      by_cases ha : a = P
      · rw [ha, gP11] at e; cases e
      · rw [k11 _ _ ha q] at e; cases e
  have fr8 : ∀ a, h8.get? a = none → s.heap.get? a = none := fun a e => by
    cases q : s.heap.get? a with
    | none => rfl
    | some o =>
      by_cases ha : a = P
      · have e8 : h8.get? P = some _ := C3.keep _ _ nP.symm (nbP _ _ (k3 _ _ hP)) (p5 _ _ gp4)
        rw [ha, e8] at e; cases e
      · have e8 : h8.get? a = some o := C3.keep _ _ (nb _ _ q) (nbP _ _ (k3 _ _ q)) (p5 _ _ (k4 _ _ ha (k3 _ _ q)))
        rw [e8] at e; cases e
  have gb3 : h3.get? s.heap.objs.size = some { cls := .type "tuple", data := .seq #[.type "object"] } := G3.1 _ _ (G2.1 _ _ (Heap.get?_push_size _ rfl))
  have bn : s.heap.objs.size ≠ n := fun q => by
    have e1 := (G3.2.1 (n, nsD #[] 0) (List.Mem.head _)).2
    rw [← q, show _ = some _ from G2.1 _ _ (Heap.get?_push_size _ rfl)] at e1
    cases e1
  have gb11 : h11.get? s.heap.objs.size = some { cls := .type "tuple", data := .seq #[.type "object"] } := k4' _ _ bn (nbP _ _ gb3) (k4 _ _ (Nat.ne_of_gt (Heap.lt_size hP)) gb3)
  refine wpAny_bind (m := call (.type "type") _ _) (ty_call s.heap.objs.size n s.toks (tn_raw s.heap.objs.size n sl f0 f1 f2 f3 f4 f5 st tt u (tk4 + 1 + 1 + 1) s.toks u2 (3 + 8 + 1) rm2 rm3 (k11 _ _ sP hSt) ?_ ?_ ?_ nM gb11 ?_ ?_))
  · intro c n' md tm to td h12 tk12 k12 gc gn' gm fc fn' fm _ _ _
    refine ⟨c, rfl, ⟨_, gc, rfl⟩, ?_⟩
    show wpAny _ _ _ _ _ { s with heap := h12, toks := tk12 }
    refine wpAny_pure ?_
    refine hQ c n' md sl f0 f1 f2 f3 f4 f5 st c0 c1 c' s.heap.objs.size o0 o1 vs0 vs1 s0 s1 u tm to td d0 d1 x0 x1 tt u (tk4 + 1 + 1 + 1) s.toks h12 tk12 (fun b o hb e => k12 _ _ (k11 _ _ hb e)) (k12 _ _ gP11) ?_ e0 e1 e2 e3
    have xx : ∀ p : Addr × Obj, p.1 ≠ n → h11.get? p.1 = some p.2 ∧ h8.get? p.1 = none → h12.get? p.1 = some p.2 ∧ s.heap.get? p.1 = none := fun p _ e => ⟨k12 _ _ e.1, fr8 _ e.2⟩
    intro p hp
    simp only [List.mem_cons, List.not_mem_nil, or_false] at hp
    rcases hp with rfl | rfl | rfl | rfl | rfl | rfl | rfl | rfl
    · exact ⟨gc, fr11 _ fc⟩
    · exact ⟨gn', fr11 _ fn'⟩
    · exact ⟨gm, fr11 _ fm⟩
    · refine ⟨k12 _ _ gb11, ?_⟩
      cases q : s.heap.get? s.heap.objs.size with
      | none => rfl
      | some o => exact absurd (Heap.lt_size q) (Nat.lt_irrefl _)
    · exact ⟨k12 _ _ (C11.ex _ (mem_nth 9 rfl)).1, fr8 _ (C11.ex _ (mem_nth 9 rfl)).2⟩
    · exact ⟨k12 _ _ (C11.ex _ (mem_nth 10 rfl)).1, fr8 _ (C11.ex _ (mem_nth 10 rfl)).2⟩
    · exact ⟨k12 _ _ (C11.ex _ (mem_nth 11 rfl)).1, fr8 _ (C11.ex _ (mem_nth 11 rfl)).2⟩
    · exact ⟨k12 _ _ (C11.ex _ (mem_nth 12 rfl)).1, fr8 _ (C11.ex _ (mem_nth 12 rfl)).2⟩
  · intro a ha
    simp only [List.mem_cons, List.not_mem_nil, or_false] at ha
    rcases ha with rfl | rfl | rfl | rfl | rfl | rfl
    · exact ⟨_, (C11.ex _ (mem_nth 11 rfl)).1, rfl⟩
    · exact ⟨_, (C11.ex _ (mem_nth 9 rfl)).1, rfl⟩
    · exact ⟨_, (C11.ex _ (mem_nth 7 rfl)).1, rfl⟩
    · exact ⟨_, (C11.ex _ (mem_nth 5 rfl)).1, rfl⟩
    · exact ⟨_, (C11.ex _ (mem_nth 3 rfl)).1, rfl⟩
    · exact ⟨_, (C11.ex _ (mem_nth 1 rfl)).1, rfl⟩
  · exact ⟨_, (C11.ex _ (mem_nth 0 rfl)).1, rfl⟩
  · exact (C11.to (on' := { cls := .type "dict", data := .dict (kns0 w.params tt u (tk4 + 1 + 1 + 1) sl f0 f1 f2 f3 f4 f5 st) (3 + 8 + 1) }) (by kernel_rfl)).gn
  · exact (C11.ex _ (mem_nth 13 rfl)).1
end
end STG
section SQ1
open PySem PySem.W PyProof.Rows PySem.Calls
set_option Elab.async false
set_option maxRecDepth 100000
set_option maxHeartbeats 1600000
section
variable {prog : Program} {w : World} {A : Around} {s : Shared} {h₀ : Heap} {L : Addr} {m : Str → Option Value} {env : Env} {elt : Expr} {x : Str} {scope : Scope} {cl : List (Str × Addr)} {S : Led → Prop} {P : Nat → Value → Prop} {Fin : List Value → Led → Prop} {n : Nat}
/-- the turns of a comprehension by an invariant of what is made and of the ledger -/
theorem comp_ind (Inv : Nat → List Value → Led → Prop)
    (step : ∀ i ys news v I oI C oC D m₂ h tk (E' : Value → Shared → Prop), i < n → Inv i ys news → P i v → LCg.NsObj oC m₂ → m₂ x = some v → Fr h₀ L h m → News h₀ L h ((I, oI) :: (C, oC) :: (D, LCg.lst ys) :: news) → LCg.Off3 I C D news → ((@Ne Nat I C) ∧ (@Ne Nat I D) ∧ (@Ne Nat C D)) →
      wpAny (model prog w) A (eval elt (compEnvC scope cl C env)) (LCg.CompEnd h₀ L m { s with heap := h, toks := tk } I oI C oC D (LCg.lst ys) S (fun y news' => Inv (i + 1) (ys ++ [y]) news')) E' { s with heap := h, toks := tk })
    (fin : ∀ ys news, Inv n ys news → Fin ys news) : ∀ k i ys news, i + k = n → Inv i ys news → LCg.CompRest prog w A h₀ L m env elt x scope cl s S P Fin k i ys news := by
  intro k
  induction k with
  | zero => intro i ys news hi hI; obtain rfl : i = n := by omega
            exact LCg.CompRest.zero (fin ys news hI)
  | succ k ih =>
    intro i ys news hi hI
    refine LCg.CompRest.succ fun v I oI C oC D m₂ h tk E' hP hC hx F N off ne => ?_
    refine wpAny_mono (step i ys news v I oI C oC D m₂ h tk E' (by omega) hI hP hC hx F N off ne) (fun y s₂ h₂ => ?_) fun _ _ e => e
    obtain ⟨h', tk', news', e, F', N', o3, hS, hr⟩ := h₂
    exact ⟨h', tk', news', e, F', N', o3, hS, ih (i + 1) _ _ (by omega) hr⟩
theorem comp_ind0 (Inv : Nat → List Value → Led → Prop) {news₀ : Led}
    (step : ∀ i ys news v I oI C oC D m₂ h tk (E' : Value → Shared → Prop), i < n → Inv i ys news → P i v → LCg.NsObj oC m₂ → m₂ x = some v → Fr h₀ L h m → News h₀ L h ((I, oI) :: (C, oC) :: (D, LCg.lst ys) :: news) → LCg.Off3 I C D news → ((@Ne Nat I C) ∧ (@Ne Nat I D) ∧ (@Ne Nat C D)) →
      wpAny (model prog w) A (eval elt (compEnvC scope cl C env)) (LCg.CompEnd h₀ L m { s with heap := h, toks := tk } I oI C oC D (LCg.lst ys) S (fun y news' => Inv (i + 1) (ys ++ [y]) news')) E' { s with heap := h, toks := tk })
    (init : Inv 0 [] news₀) (fin : ∀ ys news, Inv n ys news → Fin ys news) : LCg.CompRest prog w A h₀ L m env elt x scope cl s S P Fin n 0 [] news₀ := comp_ind Inv step fin n 0 [] news₀ (by omega) init
end
end SQ1
section SR1
open PySem PySem.W PyProof.Rows PySem.Calls
open PySem.MeetsSeq3 AutoSeq1
set_option Elab.async false
set_option maxRecDepth 100000
/-- the order of rows -/
noncomputable def rowLt : List Int → List Int → Bool
  | [], [] => false
  | [], _ :: _ => true
  | _ :: _, [] => false
  | a :: as, b :: bs => if a = b then rowLt as bs else decide (a < b)
theorem rowLt_short : ∀ {a b : List Int}, a = [] → rowLt a b = decide (0 < b.length)
  | _, [], rfl => by simp [rowLt]
  | _, _ :: _, rfl => by simp [rowLt]
theorem rowLt_long : ∀ {a b : List Int}, b = [] → rowLt a b = false
  | [], _, rfl => rfl
  | _ :: _, _, rfl => rfl
theorem at_int {items : Array Value} {r : List Int} (h : IntsAre items.toList r) {i : Nat} (hi : i < r.length) : ∃ t, items[i]? = some (.int r[i] t) := by
  have e : items.toList[i]? = items[i]? := Array.getElem?_toList
  rw [← e]
  clear e
  generalize items.toList = l at h
  induction h generalizing i with
  | nil => simp at hi
  | cons a t r ih =>
    cases i with
    | zero => exact ⟨_, rfl⟩
    | succ i => exact ih (by simpa using hi)
theorem at_none {items : Array Value} {r : List Int} (h : IntsAre items.toList r) {i : Nat} (hi : r.length ≤ i) : items[i]? = none := by
  have := h.length
  rw [Array.length_toList] at this
  exact Array.getElem?_eq_none (by omega)
theorem lt_loop (l b : Addr) (items items2 : Array Value) (n n2 : Nat) (r1 r2 : List Int) (h1 : IntsAre items.toList r1) (h2 : IntsAre items2.toList r2) (k : Nat) :
    ∀ i : Nat, r1.length - i = k → Meets (Builtin.«list.__eq__.loop» ⟨[.ref l, .ref b, rawInt i, rawInt 0], []⟩)
      (fun _ R s => s.heap.get? l = some { cls := .type "list", dict := none, data := .seq items n, slots := #[] } ∧ s.heap.get? b = some { cls := .type "list", dict := none, data := .seq items2 n2, slots := #[] } ∧
        i ≤ r1.length ∧ i ≤ r2.length ∧ R (.ok (.ret (.bool (rowLt (r1.drop i) (r2.drop i))))) s) := by
  have z1 := h1.length
  have z2 := h2.length
  rw [Array.length_toList] at z1 z2
  induction k with
  | zero =>
    intro i hk prog w A R s h
    obtain ⟨hp, g, d, tk, os⟩ := s; obtain ⟨hl, hb, l1, l2, h⟩ := h
    wp_walk using wpAny_loadPart' hl, wpAny_loadPart' hb
    have hi1 : items[((i : Nat) : Int).toNat]? = none := at_none h1 (by simp; omega)
    rw [hi1]
    wp_walk using wpAny_loadPart' hl, wpAny_loadPart' hb
    show R (.ok (.ret (.bool (decide (items.size < items2.size))))) _
    rw [rowLt_short (List.drop_eq_nil_of_le (by omega))] at h
    have e : decide (items.size < items2.size) = decide (0 < (r2.drop i).length) := by
      rw [List.length_drop]
      exact decide_eq_decide.mpr (by omega)
    rw [e]; exact h
  | succ k ih =>
    intro i hk prog w A R s h
    obtain ⟨hp, g, d, tk, os⟩ := s; obtain ⟨hl, hb, l1, l2, h⟩ := h
    wp_walk using wpAny_loadPart' hl, wpAny_loadPart' hb
    have hlt : i < r1.length := by omega
    obtain ⟨t, hi1⟩ := at_int h1 hlt
    have hi1' : items[((i : Nat) : Int).toNat]? = some (.int r1[i] t) := hi1
    by_cases hlt2 : i < r2.length
    · obtain ⟨t2, hi2⟩ := at_int h2 hlt2
      have hi2' : items2[((i : Nat) : Int).toNat]? = some (.int r2[i] t2) := hi2
      have hc : ((i : Int) + 1) = ((i + 1 : Nat) : Int) := by push_cast; rfl
      rw [List.drop_eq_getElem_cons hlt, List.drop_eq_getElem_cons hlt2] at h
      rw [hi1', hi2']
      refine wpAny_bind (wpAny_eqBool_int ?_)
      by_cases he : r1[i] = r2[i]
      · have hb' : (r1[i] == r2[i]) = true := by simpa using he
        rw [hb']
        wp_walk
        rw [hc]
        exact ⟨plainId_quiet plain_eq_loop _, codeAny_builtin entry_eq_loop (by
          rw [Around.under_plainId plain_eq_loop _]
          exact ih (i + 1) (by omega) prog w A R _ ⟨hl, hb, by omega, by omega, by simpa [rowLt, he] using h⟩)⟩
      · have hb' : (r1[i] == r2[i]) = false := by simpa using he
        rw [hb']
        wp_walk using wpAny_loadPart' hl, wpAny_loadPart' hb
        rw [hi1', hi2']
        refine wpAny_bind ?_
        refine lt_int (a := r1[i]) (b := r2[i]) ?_
        refine wpAny_pure ?_
        simpa [rowLt, he] using h
    · have hi2' : items2[((i : Nat) : Int).toNat]? = none := at_none h2 (by simp; omega)
      rw [hi1', hi2']
      wp_walk using wpAny_loadPart' hl, wpAny_loadPart' hb
      show R (.ok (.ret (.bool (decide (items.size < items2.size))))) _
      rw [rowLt_long (List.drop_eq_nil_of_le (by omega))] at h
      have e : decide (items.size < items2.size) = false := decide_eq_false (by omega)
      rw [e]; exact h
theorem list_lt_m (l b : Addr) (items items2 : Array Value) (n n2 : Nat) (r1 r2 : List Int) (h1 : IntsAre items.toList r1) (h2 : IntsAre items2.toList r2) :
    Meets (Builtin.«list.__lt__» ⟨[.ref l, .ref b], []⟩)
      (fun _ R s => s.heap.get? l = some { cls := .type "list", dict := none, data := .seq items n, slots := #[] } ∧ s.heap.get? b = some { cls := .type "list", dict := none, data := .seq items2 n2, slots := #[] } ∧
        R (.ok (.ret (.bool (rowLt r1 r2)))) s) := by
  intro prog w A R s h
  obtain ⟨hp, g, d, tk, os⟩ := s; obtain ⟨hl, hb, h⟩ := h
  have f3 := AutoSeq1.sub_list_list
  wp_walk using wpAny_loadPart' hl, wpAny_loadPart' hb
  exact ⟨plainId_quiet plain_eq_loop _, codeAny_builtin entry_eq_loop (by
    rw [Around.under_plainId plain_eq_loop _]
    exact lt_loop l b items items2 n n2 r1 r2 h1 h2 _ 0 rfl prog w A R _ ⟨hl, hb, Nat.zero_le _, Nat.zero_le _, by simpa using h⟩)⟩
theorem klt_list {prog : Program} {w : World} {A : Around} {E : Value → Shared → Prop} {s : Shared} {l b : Addr} {items items2 : Array Value} {n n2 : Nat} {r1 r2 : List Int} {Q : Bool → Shared → Prop} (hu : A.units < cLine) (hl : s.heap.get? l = some { cls := .type "list", dict := none, data := .seq items n, slots := #[] }) (hb : s.heap.get? b = some { cls := .type "list", dict := none, data := .seq items2 n2, slots := #[] })
    (h1 : IntsAre items.toList r1) (h2 : IntsAre items2.toList r2) (h : Q (rowLt r1 r2) s) : wpAny (model prog w) A (keyLt' oneType' (.ref l) (.ref b)) Q E s := by
  rw [keyLt'_oneType, oneLt'_eq]
  simp only [if_true]
  refine wpAny_bind (wpAny_cRoomFor hu ?_)
  have fin : wpAny (model prog w) A (call (.builtin "list.__lt__") ([.ref l] ++ [.ref b]) >>= fun v => pure (some v)) (fun r s' => r = some (.bool (rowLt r1 r2)) ∧ s' = s) E s :=
    wpAny_bind (call_meets F.slot_list_lt ⟨_, hl, rfl⟩ F.entry_list_lt (F.args_list_lt_2 _ _) (list_lt_m l b items items2 n n2 r1 r2 h1 h2) ⟨hl, hb, wpAny_pure ⟨rfl, rfl⟩⟩)
  refine wpAny_bind (wpAny_mono (Q := fun r s' => r = some (.bool (rowLt r1 r2)) ∧ s' = s) (E := E) ?_ (fun r s' hr => ?_) fun _ _ e => e)
  · simp only [callSpecialIfBound?, bindSpecialIfBound?]
    refine wpAny_holding (wpAny_bind (wpAny_bind (wpAny_specialOf ⟨_, hl, rfl⟩ F.slot_list_lt.lookup ?_)))
    refine wpAny_bind (wpAny_askSetting (wpAny_ite ?_))
    split
    · exact wpAny_bind (wpAny_of_eq (F.slot_list_lt.bind _) (wpAny_pure fin))
    · exact wpAny_tryCatch (wpAny_bind (wpAny_of_eq (F.slot_list_lt.bind _) (wpAny_pure fin)))
  · obtain ⟨rfl, rfl⟩ := hr
    exact wpAny_truthy_bool h
end SR1
section SCL1
open PySem PySem.Spec PySem.Calls PyProof.Rows
open LCg
set_option Elab.async false
set_option maxRecDepth 100000
noncomputable abbrev LedC := List (Addr × Obj)
section
variable {prog : Program} {w : World} {A : Around} {E : Value → Shared → Prop} {s : Shared}
/-- the turn of a list comprehension with whatever target and tests -/
theorem comp_any {elt target iter : Expr} {ifs : List Expr} {scope : Scope} {pos : Pos} {it acc : Value} {env : Env} {R : Result → Shared → Prop} (I : Nat → Shared → Prop)
    (turn : ∀ n s, I n s → wpAny (model prog w) A (pyNext it) (fun r s₁ => match r with
      | none => R (.ok .next) s₁
      | some v => wpAny (model prog w) A (letOwnedTupleGo target it v) (fun _ s₁' => wpAny (model prog w) A (assign target env v) (fun _ s₂ =>
          wpAny (model prog w) A (forIn ifs true fun c r => if r = true then do let ok ← isTrue c env (eval c env); pure (ForInStep.yield ok) else pure (ForInStep.yield r)) (fun ok s₃ =>
            if ok = true then wpAny (model prog w) A (eval elt env) (fun x s₄ =>
              wpAny (model prog w) A (call (.builtin "list.append") [acc, x]) (fun _ s₅ => ∃ m, m < n ∧ I m s₅) (notedBy (model prog w) A env fun e s' => R (.error e) s') s₄) (notedBy (model prog w) A env fun e s' => R (.error e) s') s₃
            else ∃ m, m < n ∧ I m s₃) (notedBy (model prog w) A env fun e s' => R (.error e) s') s₂) (notedBy (model prog w) A env fun e s' => R (.error e) s') s₁') (notedBy (model prog w) A env fun e s' => R (.error e) s') s₁) (notedBy (model prog w) A env fun e s' => R (.error e) s') s)
    (n : Nat) (h : I n s) : codeAny (model prog w) A (.compLoop (.ListComp elt [⟨target, iter, ifs, 0⟩] scope pos) 0 it acc env) R s := by
  refine codeAny_loop rfl I (fun n s hI => ?_) n h
  show wpAny _ A ((compTurn (.ListComp elt [⟨target, iter, ifs, 0⟩] scope pos) 0 it acc env).onRaise (fun x => do noteFrame x env; theTreesLotGoes x)) _ _ s
  refine wpAny_noted ?_
  rw [compTurn_list]
  refine wpAny_bind (wpAny_standAt (wpAny_bind (wpAny_mono (turn n s hI) (fun r s₁ h₁ => ?_) fun _ _ h' => h')))
  cases r with
  | none => exact wpAny_pure h₁
  | some v =>
    refine wpAny_bind (wpAny_mono h₁ (fun _ s₁' h₁' => ?_) fun _ _ h' => h')
    refine wpAny_bind (wpAny_mono h₁' (fun _ s₂ h₂ => wpAny_bind (wpAny_mono h₂ (fun ok s₃ h₃ => ?_) fun _ _ h' => h')) fun _ _ h' => h')
    cases ok with
    | false => exact wpAny_pure ⟨rfl, h₃⟩
    | true =>
      exact wpAny_bind (wpAny_bind (wpAny_mono h₃ (fun x s₄ h₄ => wpAny_bind (wpAny_mono h₄ (fun _ s₅ h₅ => wpAny_pure (wpAny_pure ⟨rfl, h₅⟩)) fun _ _ h' => h')) fun _ _ h' => h'))
/-- a list drawn one by one -/
theorem draw_list {it t : Addr} {items : Array Value} (hne : t ≠ it) (hh : A.handled = none) : ∀ (n i : Nat) (s : Shared) (Q : List Value → Shared → Prop), s.heap.IsListIter it t i → s.heap.IsList t items → i + n ≤ items.size →
    (∀ h' tk, h'.IsListIter it t (i + n) → h'.IsList t items → (∀ b o, b ≠ it → s.heap.get? b = some o → h'.get? b = some o) → Q ((items.toList.drop i).take n) { s with heap := h', toks := tk }) → wpAny (model prog w) A (draw (.ref it) n) Q E s
  | 0, i, s, Q, hit, hl, _, hQ => by
    show wpAny _ _ (pure []) Q E s
    exact wpAny_pure (by simpa using hQ s.heap s.toks hit hl fun _ _ _ e => e)
  | n + 1, i, s, Q, hit, hl, hle, hQ => by
    have hlt : i < items.size := by omega
    show wpAny _ _ (pyNext (.ref it) >>= _) Q E s
    refine wpAny_bind ((Walks.list (prog := prog) (w := w) hh it t hne items).item i s _ _ hlt ⟨hit, hl⟩ fun v h₁ tk hv st hk => ?_)
    refine wpAny_bind (wpAny_holding (draw_list hne hh n (i + 1) _ _ st.1 st.2 (by omega) fun h₂ tk₂ hit₂ hl₂ hk₂ => wpAny_pure ?_))
    have hd : items.toList.drop i = v :: items.toList.drop (i + 1) := by
      have e : items.toList[i]? = some v := by rw [Array.getElem?_toList]; exact hv
      obtain ⟨hi, rfl⟩ := List.getElem?_eq_some_iff.mp e
      exact List.drop_eq_getElem_cons hi
    have := hQ h₂ tk₂ (by rw [show i + (n + 1) = i + 1 + n by omega]; exact hit₂) hl₂ fun b o hb e => hk₂ b o hb (hk b o (by simpa using hb) e)
    rw [hd, List.take_succ_cons] at this
    exact this
theorem unpack_list {t : Addr} {items : Array Value} {Q : List Value → Shared → Prop} (hh : A.handled = none) (hl : s.heap.IsList t items)
    (hQ : ∀ h' tk, (∀ b o, s.heap.get? b = some o → h'.get? b = some o) → Q items.toList { s with heap := h', toks := tk }) : wpAny (model prog w) A (unpackItems (.ref t) items.size none) Q E s := by
  have hlt : t ≠ s.heap.objs.size := by obtain ⟨o, ho, _⟩ := hl; exact Nat.ne_of_lt (Heap.lt_size ho)
  unfold unpackItems
  refine wpAny_bind ?_
  unfold notIterableAtAll
  refine wpAny_bind (wpAny_specialOf hl.typeIs slot_list_iter.lookup ?_)
  refine wpAny_pure ?_
  simp only [Bool.false_eq_true, if_false]
  refine wpAny_bind (wpAny_holding (wpAny_pyIter_list hl ?_))
  have st0 : (s.heap.push { cls := .type "list_iterator", data := .fields #[.ref t, .int 0 0] }).IsListIter s.heap.objs.size t 0 := ⟨_, Heap.get?_push_size _ rfl, rfl, rfl⟩
  refine wpAny_bind (wpAny_holding (draw_list hlt hh items.size 0 _ _ st0 (hl.push _) (by omega) fun h₁ tk₁ hit₁ hl₁ hk₁ => ?_))
  have hall : List.take items.size (List.drop 0 items.toList) = items.toList := by
    rw [List.drop_zero]; exact List.take_of_length_le (by simp)
  rw [hall, if_neg (by simp)]
  refine wpAny_bind (wpAny_holding ((Walks.list (prog := prog) (w := w) hh s.heap.objs.size t hlt items).done _ _ _ ⟨by simpa using hit₁, hl₁⟩ fun h₂ tk₂ hk₂ => ?_))
  simp only [Option.isSome_none, Bool.false_eq_true, if_false]
  refine wpAny_pure (hQ h₂ tk₂ fun b o e => ?_)
  have hb : b ≠ s.heap.objs.size := Nat.ne_of_lt (Heap.lt_size e)
  exact hk₂ b o (by simpa using hb) (hk₁ b o hb (Heap.get?_push_of_some _ e))
theorem assign_tup_list {env : Env} {elts : List Expr} {x1} {pos : Pos} {t : Addr} {items : Array Value} {Q : Unit → Shared → Prop} (hh : A.handled = none) (hl : s.heap.IsList t items)
    (hn : (assignEach elts env).length = items.size) (hstar : (assignEach elts env).findIdx? (·.1) = none)
    (h : ∀ h' tk, (∀ b o, s.heap.get? b = some o → h'.get? b = some o) → wpAny (model prog w) A (assignInOrder ((assignEach elts env).map (·.2)) items.toList) Q E { s with heap := h', toks := tk }) :
    wpAny (model prog w) A (assign (.Tuple elts x1 pos) env (.ref t)) Q E s := by
  rw [assign_Tuple]
  refine wpAny_bind (wpAny_standAt ?_)
  unfold unpack
  rw [hn, hstar]
  exact wpAny_bind (wpAny_holding (unpack_list hh hl h))
end
end SCL1
section SCL2
open PySem PySem.Spec PySem.Calls PyProof.Rows
open LCg
set_option Elab.async false
set_option maxRecDepth 100000
noncomputable def OffG (I D : Addr) (as : List Addr) (news : LedC) : Prop := ∀ p ∈ news, p.1 ≠ I ∧ p.1 ≠ D ∧ p.1 ∉ as
inductive EndG (h₀ : Heap) (L : Addr) (m : Str → Option Value) (s₁ : Shared) (I : Addr) (oI : Obj) (own : LedC) (D : Addr) (oD : Obj) (as : List Addr) (S : LedC → Prop) (rest : Value → LedC → Prop) (y : Value) (s₂ : Shared) : Prop
  | mk (h' : Heap) (tk : Nat) (news' : LedC) (e : s₂ = { s₁ with heap := h', toks := tk }) (F : Fr h₀ L h' m) (N : News h₀ L h' ((I, oI) :: (D, oD) :: (own ++ news'))) (off : OffG I D as news') (hS : S news') (hr : rest y news') : EndG h₀ L m s₁ I oI own D oD as S rest y s₂
noncomputable abbrev testsOf (ifs : List Expr) (env : Env) : Sem Bool := forIn ifs true fun c r => if r = true then do let ok ← isTrue c env (eval c env); pure (ForInStep.yield ok) else pure (ForInStep.yield r)
noncomputable def RestG (prog : Program) (w : World) (A : Around) (h₀ : Heap) (L : Addr) (m : Str → Option Value) (cenv : Env) (ifs : List Expr) (elt : Expr) (I D : Addr) (as : List Addr) (s : Shared) (S : LedC → Prop) (P : Nat → Value → Prop) (OwnV : Value → LedC → Prop)
    (Fin : List Value → LedC → Prop) : Nat → Nat → List Value → LedC → Prop
  | 0, _, ys, news => Fin ys news
  | k + 1, i, ys, news => ∀ v oI own h tk (E' : Value → Shared → Prop), P i v → OwnV v own → own.map (·.1) = as → Fr h₀ L h m → News h₀ L h ((I, oI) :: (D, lst ys) :: (own ++ news)) → OffG I D as news →
      wpAny (model prog w) A (testsOf ifs cenv) (fun ok s' => if ok = true then
        wpAny (model prog w) A (eval elt cenv) (EndG h₀ L m { s with heap := h, toks := tk } I oI own D (lst ys) as S (fun y news' => RestG prog w A h₀ L m cenv ifs elt I D as s S P OwnV Fin k (i + 1) (ys ++ [y]) news')) E' s'
        else EndG h₀ L m { s with heap := h, toks := tk } I oI own D (lst ys) as S (fun _ news' => RestG prog w A h₀ L m cenv ifs elt I D as s S P OwnV Fin k (i + 1) ys news') Value.none s') E' { s with heap := h, toks := tk }
section
variable {prog : Program} {w : World} {A : Around} {s : Shared} {h₀ : Heap} {L : Addr} {m : Str → Option Value}
theorem newsG_but {h h' : Heap} {I : Addr} {news : LedC} (N : News h₀ L h news) (hk : ∀ b o, b ≠ I → h.get? b = some o → h'.get? b = some o) (off : ∀ p ∈ news, p.1 ≠ I) : News h₀ L h' news := fun p hp => ⟨hk _ _ (off p hp) (N p hp).1, (N p hp).2⟩
theorem newsG_same {h h' : Heap} {D : Addr} {news : LedC} (N : News h₀ L h news) (hs : Heap.SameBut D h h') (off : ∀ p ∈ news, p.1 ≠ D) : News h₀ L h' news := fun p hp => ⟨hs.extBut _ _ (off p hp) (N p hp).1, (N p hp).2⟩
inductive InvG (prog : Program) (w : World) (A : Around) (h₀ : Heap) (L : Addr) (m : Str → Option Value) (cenv : Env) (ifs : List Expr) (elt : Expr) (I D ax : Addr) (as : List Addr) (its : Array Value) (s : Shared) (OwnV : Value → LedC → Prop) (OwnOk : LedC → Prop) (S : LedC → Prop) (Fin : List Value → LedC → Prop) (k : Nat) (s' : Shared) : Prop
  | mk (h' : Heap) (tk i : Nat) (ys : List Value) (own news' : LedC) (e : s' = { s with heap := h', toks := tk }) (hi : i ≤ its.size) (hk : k = its.size + 1 - i) (hy : ys.length ≤ i) (hit : h'.IsListIter I ax i) (F : Fr h₀ L h' m) (N : News h₀ L h' ((D, lst ys) :: (own ++ news'))) (off : OffG I D as news') (hS : S news') (ho : OwnOk own) (has : own.map (·.1) = as)
      (R : RestG prog w A h₀ L m cenv ifs elt I D as s S (fun i v => its[i]? = some v) OwnV Fin (its.size - i) i ys news') : InvG prog w A h₀ L m cenv ifs elt I D ax as its s OwnV OwnOk S Fin k s'
theorem loopG {cenv : Env} {target elt iter : Expr} {ifs : List Expr} {scope : Scope} {pos : Pos} {I D ax : Addr} {as : List Addr} {its : Array Value} {OwnV : Value → LedC → Prop} {OwnOk : LedC → Prop} {S : LedC → Prop} {Fin : List Value → LedC → Prop} {own : LedC} {news : LedC} {h₁ : Heap} {tk₁ : Nat} {RR : Result → Shared → Prop}
    (hh : A.handled = none) (hne : ax ≠ I) (hsz : its.size ≤ sizeLine) (hDI : D ≠ I) (hasI : I ∉ as) (hasD : D ∉ as) (hDL : D ≠ L) (hD₀ : h₀.get? D = none) (hIL : I ≠ L) (hI₀ : h₀.get? I = none) (hOk : ∀ v own, OwnV v own → OwnOk own) (hSS : ∀ news, S news → SrcAt h₀ ax its news)
    (hassign : ∀ v own oI ys news h tk (Q : Unit → Shared → Prop) (E : Value → Shared → Prop), (∃ i : Nat, its[i]? = some v) → (∃ l j, h.IsListIter I l j) → OwnOk own → own.map (·.1) = as → Fr h₀ L h m → News h₀ L h ((I, oI) :: (D, lst ys) :: (own ++ news)) → OffG I D as news → S news →
      (∀ own' h' tk', OwnV v own' → own'.map (·.1) = as → Fr h₀ L h' m → News h₀ L h' ((I, oI) :: (D, lst ys) :: (own' ++ news)) → Q () { s with heap := h', toks := tk' }) →
      wpAny (model prog w) A (letOwnedTupleGo target (.ref I) v) (fun _ s' => wpAny (model prog w) A (assign target cenv v) Q E s') E { s with heap := h, toks := tk })
    (hst : h₁.IsListIter I ax 0) (F : Fr h₀ L h₁ m) (N : News h₀ L h₁ ((D, lst []) :: (own ++ news))) (off : OffG I D as news) (hS : S news) (hown : OwnOk own) (has : own.map (·.1) = as)
    (R : RestG prog w A h₀ L m cenv ifs elt I D as s S (fun i v => its[i]? = some v) OwnV Fin its.size 0 [] news)
    (hRR : ∀ own h tk ys news', Fr h₀ L h m → News h₀ L h ((D, lst ys) :: (own ++ news')) → OffG I D as news' → OwnOk own → own.map (·.1) = as → Fin ys news' → RR (.ok .next) { s with heap := h, toks := tk }) :
    codeAny (model prog w) A (.compLoop (.ListComp elt [⟨target, iter, ifs, 0⟩] scope pos) 0 (.ref I) (.ref D) cenv) RR { s with heap := h₁, toks := tk₁ } := by
  have W := Walks.list (prog := prog) (w := w) (A := A) hh I ax hne its
  have offOwn : ∀ {own news : LedC}, own.map (·.1) = as → OffG I D as news → ∀ p ∈ (D, lst []) :: (own ++ news), p.1 ≠ I := fun {own news} h1 h2 p hp => by
    rcases List.mem_cons.mp hp with rfl | hp
    · exact hDI
    · rcases List.mem_append.mp hp with hp | hp
      · exact fun q => hasI (q ▸ h1 ▸ List.mem_map_of_mem hp)
      · exact (h2 p hp).1
  have offD : ∀ {own news : LedC}, own.map (·.1) = as → OffG I D as news → ∀ p ∈ own ++ news, p.1 ≠ D := fun {own news} h1 h2 p hp => by
    rcases List.mem_append.mp hp with hp | hp
    · exact fun q => hasD (q ▸ h1 ▸ List.mem_map_of_mem hp)
    · exact (h2 p hp).2.1
  refine comp_any (InvG prog w A h₀ L m cenv ifs elt I D ax as its s OwnV OwnOk S Fin) ?_ (its.size + 1)
    ⟨h₁, tk₁, 0, [], own, news, rfl, Nat.zero_le _, rfl, Nat.le_refl _, hst, F, N, off, hS, hown, has, R⟩
  rintro k s' ⟨h', tk, i, ys, own', news', rfl, hi, rfl, hyl, hit', F', N', off', hS', hown', has', R'⟩
  have src : ∀ {h : Heap} {own news : LedC} {o : Obj}, Fr h₀ L h m → News h₀ L h ((D, o) :: (own ++ news)) → SrcAt h₀ ax its news → h.IsList ax its := fun F N S => S.list F.keep fun p hp => N p (List.mem_cons_of_mem _ (List.mem_append_right _ hp))
  have hl' := src F' N' (hSS _ hS')
  by_cases hlt : i < its.size
  · obtain ⟨j, hj⟩ : ∃ j, its.size - i = j + 1 := ⟨its.size - i - 1, by omega⟩
    rw [hj] at R'
    refine W.item i _ _ _ hlt ⟨hit', hl'⟩ fun v h₂ tk₂ hPv hst₂ hk₂ => ?_
    have hk₂' : ∀ b o, b ≠ I → h'.get? b = some o → h₂.get? b = some o := fun b o hb e => hk₂ b o (by simpa using hb) e
    have F₂ : Fr h₀ L h₂ m := fr_but F' hk₂ (Ne.symm hIL) hI₀
    have N₂ : News h₀ L h₂ ((D, lst ys) :: (own' ++ news')) := newsG_but N' hk₂' fun p hp => by
      rcases List.mem_cons.mp hp with rfl | hp
      · exact hDI
      · exact offOwn has' off' p (List.mem_cons_of_mem _ hp)
    obtain ⟨oI, heI, hcI, hdI⟩ := hst₂.1
    have N₂' : News h₀ L h₂ ((I, oI) :: (D, lst ys) :: (own' ++ news')) := fun p hp => by
      rcases List.mem_cons.mp hp with rfl | hp
      · exact ⟨heI, hIL, hI₀⟩
      · exact N₂ p hp
    refine hassign v own' oI ys news' h₂ tk₂ _ _ ⟨i, hPv⟩ ⟨ax, i + 1, hst₂.1⟩ hown' has' F₂ N₂' off' hS' fun own₃ h₃ tk₃ hV has₃ F₃ N₃ => ?_
    refine wpAny_mono (R' v oI own₃ h₃ tk₃ _ hPv hV has₃ F₃ N₃ off') (fun ok s₄ h₄ => ?_) fun _ _ e => e
    cases ok with
    | true =>
      simp only [if_true] at h₄ ⊢
      refine wpAny_mono h₄ (fun y s₅ h₅ => ?_) fun _ _ e => e
      obtain ⟨h₄, tk₄, news₄, rfl, F₄, N₄, off₄, hS₄, R₄⟩ := h₅
      have zI := (N₄ (I, oI) List.mem_cons_self).1
      have zD := (N₄ (D, lst ys) (List.mem_cons_of_mem _ List.mem_cons_self)).1
      refine append_at (hsz := by show ys.toArray.size ≤ sizeLine; rw [List.size_toArray]; exact Nat.le_trans (Nat.le_trans hyl hi) hsz) zD fun h₅ hs₅ hD₅ => ?_
      refine ⟨its.size + 1 - (i + 1), by omega, h₅, tk₄, i + 1, ys ++ [y], own₃, news₄, rfl, hlt, rfl, by rw [List.length_append, List.length_singleton]; exact Nat.succ_le_succ hyl, ⟨oI, hs₅.extBut _ _ (Ne.symm hDI) zI, hcI, hdI⟩, F₄.change hs₅ hDL hD₀, fun p hp => ?_, off₄, hS₄, hOk _ _ hV, has₃, ?_⟩
      · rcases List.mem_cons.mp hp with rfl | hp
        · exact ⟨hD₅.trans (congrArg some (lst_snoc ys y)), hDL, hD₀⟩
        · exact ⟨hs₅.extBut _ _ (offD has₃ off₄ p hp) (N₄ p (List.mem_cons_of_mem _ (List.mem_cons_of_mem _ hp))).1, (N₄ p (List.mem_cons_of_mem _ (List.mem_cons_of_mem _ hp))).2⟩
      · rw [show its.size - (i + 1) = j by omega]
        exact R₄
    | false =>
      simp only [Bool.false_eq_true, if_false] at h₄ ⊢
      obtain ⟨h₅, tk₄, news₄, rfl, F₄, N₄, off₄, hS₄, R₄⟩ := h₄
      have zI := (N₄ (I, oI) List.mem_cons_self).1
      refine ⟨its.size + 1 - (i + 1), by omega, h₅, tk₄, i + 1, ys, own₃, news₄, rfl, hlt, rfl, Nat.le_succ_of_le hyl, ⟨oI, zI, hcI, hdI⟩, F₄, fun p hp => N₄ p (List.mem_cons_of_mem _ hp), off₄, hS₄, hOk _ _ hV, has₃, ?_⟩
      rw [show its.size - (i + 1) = j by omega]
      exact R₄
  · obtain rfl : i = its.size := Nat.le_antisymm hi (Nat.not_lt.mp hlt)
    rw [Nat.sub_self] at R'
    refine W.done _ _ _ ⟨hit', hl'⟩ fun h₂ tk₂ hk₂ => ?_
    exact hRR own' h₂ tk₂ ys news' (fr_but F' hk₂ (Ne.symm hIL) hI₀) (newsG_but N' (fun b o hb e => hk₂ b o (by simpa using hb) e) fun p hp => by
      rcases List.mem_cons.mp hp with rfl | hp
      · exact hDI
      · exact offOwn has' off' p (List.mem_cons_of_mem _ hp)) off' hown' has' R'
end
end SCL2
section SCL3
open PySem PySem.Spec PySem.Calls PyProof.Rows
open LCg
set_option Elab.async false
set_option maxRecDepth 100000
section
variable {prog : Program} {w : World} {A : Around} {E : Value → Shared → Prop} {s : Shared} {h₀ : Heap} {L : Addr} {m : Str → Option Value} {env : Env}
theorem h0_none {h : Heap} (F : Fr h₀ L h m) {a : Addr} (e : h.objs.size ≤ a) : h₀.get? a = none := by
  cases q : h₀.get? a with
  | none => rfl
  | some o => exact absurd (Heap.lt_size (F.keep a o q)) (Nat.not_lt.mpr e)
/-- a comprehension's start, no name of it a cell -/
theorem startN {target elt iter : Expr} {ifs : List Expr} {scope : Scope} {cl : List (Str × Addr)} {pos : Pos} {ax : Addr} {its : Array Value} {news : LedC} {RR : Value → Addr → Result → Shared → Prop}
    (hh : A.handled = none) (hl : s.heap.IsList ax its) (F : Fr h₀ L s.heap m) (N : News h₀ L s.heap news) (hcell : ∀ y ∈ scope.names, y.2 ≠ .cell) (hkind : scope.kind = .function)
    (h : ∀ I D C oC h₁ tk₁, ax ≠ I → D ≠ I → C ≠ I → C ≠ D → I ≠ L → D ≠ L → C ≠ L → h₀.get? I = none → h₀.get? D = none → h₀.get? C = none → h₁.IsListIter I ax 0 → Fr h₀ L h₁ m → News h₀ L h₁ ((D, lst []) :: (C, oC) :: news) → (∃ m', NsObj oC m') → (∀ p ∈ news, p.1 ≠ I ∧ p.1 ≠ D ∧ p.1 ≠ C) →
      codeAny (model prog w) A (.compLoop (.ListComp elt [⟨target, iter, ifs, 0⟩] scope pos) 0 (.ref I) (.ref D) (compEnvC scope cl C env)) (RR (.ref D) C) { s with heap := h₁, toks := tk₁ }) :
    wpAny (model prog w) A (pyIter (.ref ax)) (fun it s₂ => wpAny (model prog w) A (newList []) (fun acc s₃ => wpAny (model prog w) A (newFunctionEnv scope env.globals cl [] env.qual none .none (some env)) (fun cenv s₄ =>
      codeAny (model prog w) A (.compStart (.ListComp elt [⟨target, iter, ifs, 0⟩] scope pos) 0 it acc { cenv with scope := relabel scope env }) (RR acc cenv.locals) s₄) E s₃) E s₂) E s := by
  have hax : ax < s.heap.objs.size := by obtain ⟨_, e, _⟩ := hl; exact Heap.lt_size e
  refine wpAny_pyIter_list hl ?_
  refine wpAny_newObj_type (wpAny_newFunctionEnv hcell (by intro y hy; simp at hy) (fun h₁ hns₁ hsb₁ => ?_) hkind)
  dsimp only at hns₁ hsb₁ ⊢
  generalize hI : s.heap.objs.size = I at hns₁ hsb₁ ⊢
  generalize hH1 : s.heap.push { cls := .type "list_iterator", data := .fields #[.ref ax, .int 0 0] } = H1 at hns₁ hsb₁ ⊢
  have sz1 : H1.objs.size = I + 1 := by rw [← hH1, Heap.size_push, hI]
  generalize hD : H1.objs.size = D at hns₁ hsb₁ ⊢
  generalize hH2 : H1.push { cls := .type "list", dict := none, data := .seq ([] : List Value).toArray } = H2 at hns₁ hsb₁ ⊢
  have sz2 : H2.objs.size = D + 1 := by rw [← hH2, Heap.size_push, hD]
  generalize hC : H2.objs.size = C at hns₁ hsb₁ ⊢
  have nDI : D ≠ I := by rw [← hD, sz1]; exact Nat.succ_ne_self _
  have nCD : C ≠ D := by rw [← hC, sz2]; exact Nat.succ_ne_self _
  have lID : I < D := by rw [← hD, sz1]; exact Nat.lt_succ_self _
  have lDC : D < C := by rw [← hC, sz2]; exact Nat.lt_succ_self _
  have nCI : C ≠ I := Nat.ne_of_gt (Nat.lt_trans lID lDC)
  have hL : L < I := hI ▸ F.ns.lt
  have up : ∀ b o, s.heap.get? b = some o → h₁.get? b = some o := fun b o e => by
    have hb : b < I := hI ▸ Heap.lt_size e
    exact hsb₁.extBut b o (Nat.ne_of_lt (Nat.lt_trans hb (Nat.lt_trans lID lDC))) (Heap.get?_push_of_some _ (hH2 ▸ Heap.get?_push_of_some _ (hH1 ▸ Heap.get?_push_of_some _ e)))
  have gI : h₁.get? I = some { cls := .type "list_iterator", data := .fields #[.ref ax, .int 0 0] } := hsb₁.extBut _ _ (Ne.symm nCI) (Heap.get?_push_of_some _ (hH2 ▸ Heap.get?_push_of_some _ (by rw [← hH1, ← hI]; exact Heap.get?_push_size _ rfl)))
  have gD : h₁.get? D = some (lst []) := hsb₁.extBut _ _ (Ne.symm nCD) (Heap.get?_push_of_some _ (by rw [← hH2, ← hD]; exact Heap.get?_push_size _ rfl))
  obtain ⟨oC, gC, hoC⟩ := ns_obj hns₁
  have zI : h₀.get? I = none := h0_none F (Nat.le_of_eq hI)
  have zD : h₀.get? D = none := h0_none F (by rw [hI]; exact Nat.le_of_lt lID)
  have zC : h₀.get? C = none := h0_none F (by rw [hI]; exact Nat.le_of_lt (Nat.lt_trans lID lDC))
  have offN : ∀ p ∈ news, p.1 < I := fun p hp => hI ▸ Heap.lt_size (N p hp).1
  have start := h I D C oC h₁ (s.toks + ([] : List (Str × Value)).length) (Nat.ne_of_lt (hI ▸ hax)) nDI nCI nCD (Nat.ne_of_gt hL) (Nat.ne_of_gt (Nat.lt_trans hL lID)) (Nat.ne_of_gt (Nat.lt_trans hL (Nat.lt_trans lID lDC))) zI zD zC ⟨_, gI, rfl, rfl⟩ (F.keeps up) (fun p hp => by
    rcases List.mem_cons.mp hp with rfl | hp
    · exact ⟨gD, Nat.ne_of_gt (Nat.lt_trans hL lID), zD⟩
    · rcases List.mem_cons.mp hp with rfl | hp
      · exact ⟨gC, Nat.ne_of_gt (Nat.lt_trans hL (Nat.lt_trans lID lDC)), zC⟩
      · exact ⟨up _ _ (N p hp).1, (N p hp).2⟩) ⟨_, hoC⟩ (fun p hp => ⟨Nat.ne_of_lt (offN p hp), Nat.ne_of_lt (Nat.lt_trans (offN p hp) lID), Nat.ne_of_lt (Nat.lt_trans (offN p hp) (Nat.lt_trans lID lDC))⟩)
  have W := Walks.list (prog := prog) (w := w) (A := A) hh I ax (Nat.ne_of_lt (hI ▸ hax)) its
  exact codeAny_compStart_list start (W.self 0 _ _ _ ⟨⟨_, gI, rfl, rfl⟩, hl.at fun o e => up _ _ e⟩ start)
end
end SCL3
section SCL4
open PySem PySem.Spec PySem.Calls PyProof.Rows
open LCg
set_option Elab.async false
set_option maxRecDepth 100000
/-- a source of lists of three, with what holds turn by turn -/
structure Src3 (prog : Program) (w : World) (A : Around) (h₀ : Heap) (L : Addr) (m : Str → Option Value) (env : Env) (ifs : List Expr) (elt : Expr) (x1 x2 x3 : Str) (scope : Scope) (cl : List (Str × Addr)) (ax : Addr) (its : Array Value) (news : LedC) (items : LedC) (Inv : Nat → List Value → LedC → Prop) (s₁ : Shared) : Prop where
  hh : A.handled = none
  F : Fr h₀ L s₁.heap m
  N : News h₀ L s₁.heap news
  src : SrcAt h₀ ax its news
  sz : its.size ≤ sizeLine
  hits : ∀ (i : Nat) v, its[i]? = some v → ∃ t v1 v2 v3 n, v = .ref t ∧ (t, W.listOf #[v1, v2, v3] n) ∈ items
  sub : ∀ p ∈ items, p ∈ news
  init : Inv 0 [] news
  keep : ∀ i ys news', Inv i ys news' → ∀ p ∈ news, p ∈ news'
  step : ∀ (i : Nat) ys news v t v1 v2 v3 n I oI C oC D m₂ h tk (E' : Value → Shared → Prop), i < its.size → Inv i ys news → its[i]? = some v → v = .ref t → (t, W.listOf #[v1, v2, v3] n) ∈ items → NsObj oC m₂ → m₂ x1 = some v1 → m₂ x2 = some v2 → m₂ x3 = some v3 →
    Fr h₀ L h m → News h₀ L h ((I, oI) :: (C, oC) :: (D, lst ys) :: news) → Off3 I C D news → ((@Ne Nat I C) ∧ (@Ne Nat I D) ∧ (@Ne Nat C D)) →
    wpAny (model prog w) A (testsOf ifs (compEnvC scope cl C env)) (fun ok s' => if ok = true then
      wpAny (model prog w) A (eval elt (compEnvC scope cl C env)) (CompEnd h₀ L m { s₁ with heap := h, toks := tk } I oI C oC D (lst ys) (fun _ => True) (fun y news' => Inv (i + 1) (ys ++ [y]) news')) E' s'
      else CompEnd h₀ L m { s₁ with heap := h, toks := tk } I oI C oC D (lst ys) (fun _ => True) (fun _ news' => Inv (i + 1) ys news') Value.none s') E' { s₁ with heap := h, toks := tk }
inductive Own3 (items : LedC) (x1 x2 x3 : Str) (C : Addr) (v : Value) (own : LedC) : Prop
  | mk (t : Addr) (v1 v2 v3 : Value) (n : Nat) (oC : Obj) (m₂ : Str → Option Value) (e : v = .ref t) (hm : (t, W.listOf #[v1, v2, v3] n) ∈ items) (ho : own = [(C, oC)]) (hC : NsObj oC m₂) (e1 : m₂ x1 = some v1) (e2 : m₂ x2 = some v2) (e3 : m₂ x3 = some v3) : Own3 items x1 x2 x3 C v own
section
variable {prog : Program} {w : World} {A : Around} {E : Value → Shared → Prop} {s : Shared} {h₀ : Heap} {L : Addr} {m : Str → Option Value} {env : Env} {ifs : List Expr} {elt iter : Expr} {x1 x2 x3 : Str} {px1 px2 px3 tp : Pos} {tk} {scope : Scope} {cl : List (Str × Addr)} {pos : Pos}
theorem Src3.rest {ax : Addr} {its : Array Value} {news items : LedC} {Inv : Nat → List Value → LedC → Prop} {s₁ : Shared} (S : Src3 prog w A h₀ L m env ifs elt x1 x2 x3 scope cl ax its news items Inv s₁) {I D C : Addr} (n1 : @Ne Nat D I) (n2 : @Ne Nat C I) (n3 : @Ne Nat C D) :
    ∀ k i ys news', i + k = its.size → Inv i ys news' → RestG prog w A h₀ L m (compEnvC scope cl C env) ifs elt I D [C] s₁ (fun nw => SrcAt h₀ ax its nw ∧ ∀ p ∈ items, p ∈ nw) (fun i v => its[i]? = some v)
      (Own3 items x1 x2 x3 C) (Inv its.size) k i ys news'
  | 0, i, ys, news', hi, hI => by obtain rfl : i = its.size := by omega
                                  exact hI
  | k + 1, i, ys, news', hi, hI => by
    rintro v oI own h tk E' hv ⟨t, v1, v2, v3, n, oC, m₂, rfl, hm, rfl, hC, e1, e2, e3⟩ has F N off
    have back : ∀ {ys' : List Value} {y : Value} {s' : Shared}, CompEnd h₀ L m { s₁ with heap := h, toks := tk } I oI C oC D (lst ys) (fun _ => True) (fun _ news' => Inv (i + 1) ys' news') y s' →
        EndG h₀ L m { s₁ with heap := h, toks := tk } I oI [(C, oC)] D (lst ys) [C] (fun nw => SrcAt h₀ ax its nw ∧ ∀ p ∈ items, p ∈ nw) (fun _ news' => RestG prog w A h₀ L m (compEnvC scope cl C env) ifs elt I D [C] s₁ (fun nw => SrcAt h₀ ax its nw ∧ ∀ p ∈ items, p ∈ nw) (fun i v => its[i]? = some v)
      (Own3 items x1 x2 x3 C) (Inv its.size) k (i + 1) ys' news') y s' := by
      rintro ys' y s' ⟨h', tk', nw, rfl, F', N', off', _, r⟩
      have up := S.keep _ _ _ r
      refine ⟨h', tk', nw, rfl, F', fun p hp => N' p ?_, fun p hp => ?_, ⟨?_, fun p hp => up _ (S.sub p hp)⟩, S.rest n1 n2 n3 k (i + 1) ys' nw (by omega) r⟩
      · rcases List.mem_cons.mp hp with rfl | hp
        · exact .head _
        · rcases List.mem_cons.mp hp with rfl | hp
          · exact .tail _ (.tail _ (.head _))
          · rcases List.mem_cons.mp hp with rfl | hp
            · exact .tail _ (.head _)
            · exact .tail _ (.tail _ (.tail _ hp))
      · have o3 := off'.mem p hp
        exact ⟨o3.1, o3.2.2, by simpa using o3.2.1⟩
      · rcases S.src with h1 | ⟨o, h1, h2⟩
        · exact .inl h1
        · exact .inr ⟨o, up _ h1, h2⟩
    refine wpAny_mono (S.step i ys news' _ t v1 v2 v3 n I oI C oC D m₂ h tk E' (by omega) hI hv rfl hm hC e1 e2 e3 F (fun p hp => N p ?_) (Off3.of fun p hp => ⟨(off p hp).1, by simpa using (off p hp).2.2, (off p hp).2.1⟩) ⟨Ne.symm n2, Ne.symm n1, n3⟩) (fun ok s' hs' => ?_) fun _ _ e => e
    · rcases List.mem_cons.mp hp with rfl | hp
      · exact .head _
      · rcases List.mem_cons.mp hp with rfl | hp
        · exact .tail _ (.tail _ (.head _))
        · rcases List.mem_cons.mp hp with rfl | hp
          · exact .tail _ (.head _)
          · exact .tail _ (.tail _ (.tail _ hp))
    · cases ok with
      | true =>
        simp only [if_true] at hs' ⊢
        exact wpAny_mono hs' (fun y s'' h'' => by
          obtain ⟨h', tk', nw, e, F', N', off', _, r⟩ := h''
          obtain ⟨h1, tk1, nw1, a1, a2, a3, a4, a5, a6⟩ := back (ys' := ys ++ [y]) (y := y) ⟨h', tk', nw, e, F', N', off', trivial, r⟩
          exact ⟨h1, tk1, nw1, a1, a2, a3, a4, a5, a6⟩) fun _ _ e => e
      | false =>
        simp only [Bool.false_eq_true, if_false] at hs' ⊢
        exact back hs'
theorem assign3 {cenv : Env} {C I D t : Addr} {v1 v2 v3 : Value} {oC oI oD : Obj} {news : LedC} {Q : Unit → Shared → Prop} (hh : A.handled = none) (h1 : cenv.kindOf x1 = some .local) (h2 : cenv.kindOf x2 = some .local) (h3 : cenv.kindOf x3 = some .local) (h12 : x1 ≠ x2) (h13 : x1 ≠ x3) (h23 : x2 ≠ x3) (hC : cenv.locals = C) (hk : cenv.scope.kind = .function)
    (F : Fr h₀ L s.heap m) (N : News h₀ L s.heap ((I, oI) :: (D, oD) :: (C, oC) :: news)) (hCI : C ≠ I) (hCD : C ≠ D) (off : ∀ p ∈ news, p.1 ≠ C) (ho : ∃ m', NsObj oC m') (hit : ∃ l j, s.heap.IsListIter I l j) (ht : s.heap.IsList t #[v1, v2, v3])
    (hQ : ∀ oC' m₂ h' tk', NsObj oC' m₂ → m₂ x1 = some v1 → m₂ x2 = some v2 → m₂ x3 = some v3 → Fr h₀ L h' m → News h₀ L h' ((I, oI) :: (D, oD) :: (C, oC') :: news) → Q () { s with heap := h', toks := tk' }) :
    wpAny (model prog w) A (letOwnedTupleGo (.Tuple [.Name x1 px1, .Name x2 px2, .Name x3 px3] tk tp) (.ref I) (.ref t)) (fun _ s' => wpAny (model prog w) A (assign (.Tuple [.Name x1 px1, .Name x2 px2, .Name x3 px3] tk tp) cenv (.ref t)) Q E s') E s := by
  obtain ⟨l, j, hit⟩ := hit
  obtain ⟨m0, ho⟩ := ho
  have zC := N (C, oC) (.tail _ (.tail _ (.head _)))
  have hp : (cenv.scope.kind == .class || (cenv.scope.kind == .module && cenv.locals != cenv.globals)) = false := by rw [hk]; rfl
  refine wpAny_letOwnedTupleGo_listiter hit ?_
  refine assign_tup_list hh ht rfl rfl fun ha ta ka => ?_
  have nsC : ha.Ns cenv.locals m0 := hC ▸ (ho.ns (ka _ _ zC.1))
  refine assignInOrder_cons (wpAny_assign_Name (wpAny_storeName_local h1 nsC (fun hb nb sb => ?_) hp))
  refine assignInOrder_cons (wpAny_assign_Name (wpAny_storeName_local h2 nb (fun hc nc sc => ?_) hp))
  refine assignInOrder_cons (wpAny_assign_Name (wpAny_storeName_local h3 nc (fun hd nd sd => ?_) hp))
  refine assignInOrder_nil ?_
  have up : ∀ b o, b ≠ C → s.heap.get? b = some o → hd.get? b = some o := fun b o hb e => sd.extBut b o (hC ▸ hb) (sc.extBut b o (hC ▸ hb) (sb.extBut b o (hC ▸ hb) (ka b o e)))
  obtain ⟨oC', gC', hoC'⟩ := ns_obj (hC ▸ nd)
  refine hQ oC' _ hd _ hoC' (by simp [h12, h13]) (by simp [h23]) (by simp) ⟨F.ns.at' fun o e => up L o (Ne.symm zC.2.1) e, fun b o e => up b o (fun q => by rw [q, zC.2.2] at e; cases e) (F.keep b o e), F.above⟩ fun p hp => ?_
  rcases List.mem_cons.mp hp with rfl | hp
  · exact ⟨up _ _ (Ne.symm hCI) (N _ (.head _)).1, (N _ (.head _)).2⟩
  · rcases List.mem_cons.mp hp with rfl | hp
    · exact ⟨up _ _ (Ne.symm hCD) (N _ (.tail _ (.head _))).1, (N _ (.tail _ (.head _))).2⟩
    · rcases List.mem_cons.mp hp with rfl | hp
      · exact ⟨gC', zC.2⟩
      · exact ⟨up _ _ (off p hp) (N _ (.tail _ (.tail _ (.tail _ hp)))).1, (N _ (.tail _ (.tail _ (.tail _ hp)))).2⟩
end
end SCL4
section SCL5
open PySem PySem.Spec PySem.Calls PyProof.Rows
open LCg
set_option Elab.async false
set_option maxRecDepth 100000
section
variable {prog : Program} {w : World} {A : Around} {E : Value → Shared → Prop} {s : Shared} {h₀ : Heap} {L : Addr} {m : Str → Option Value} {env : Env} {ifs : List Expr} {elt iter : Expr} {x1 x2 x3 : Str} {px1 px2 px3 tp : Pos} {tk} {scope : Scope} {cl : List (Str × Addr)} {pos : Pos}
theorem kind_relabel {C : Addr} {x : Str} (h : scope.names.lookup x = some .local) : (compEnvC scope cl C env).kindOf x = some .local := lookup_relabel_local h
/-- a place where the walk of itself halts -/
noncomputable def Held (p : Prop) : Prop := p
/-- the loop of a comprehension over lists of three -/
theorem loop3 {ax : Addr} {its : Array Value} {news items : LedC} {Inv : Nat → List Value → LedC → Prop} {RR : Value → Addr → Result → Shared → Prop} (hkind : scope.kind = .function) (hcell : ∀ y ∈ scope.names, y.2 ≠ .cell)
    (h1 : scope.names.lookup x1 = some .local) (h2 : scope.names.lookup x2 = some .local) (h3 : scope.names.lookup x3 = some .local) (h12 : x1 ≠ x2) (h13 : x1 ≠ x3) (h23 : x2 ≠ x3)
    (S : Src3 prog w A h₀ L m env ifs elt x1 x2 x3 scope cl ax its news items Inv s)
    (hRR : ∀ D C h tk m' ys news', Fr h₀ L h m → News h₀ L h ((D, lst ys) :: news') → Off1 D news' → h.Ns C m' → h₀.get? C = none → h₀.get? D = none → C ≠ L → D ≠ L → C ≠ D → (∀ p ∈ news', p.1 ≠ C) → Inv its.size ys news' → RR (.ref D) C (.ok .next) { s with heap := h, toks := tk }) :
    wpAny (model prog w) A (pyIter (.ref ax)) (fun it s₂ => wpAny (model prog w) A (newList []) (fun acc s₃ => wpAny (model prog w) A (newFunctionEnv scope env.globals cl [] env.qual none .none (some env)) (fun cenv s₄ =>
      codeAny (model prog w) A (.compStart (.ListComp elt [⟨.Tuple [.Name x1 px1, .Name x2 px2, .Name x3 px3] tk tp, iter, ifs, 0⟩] scope pos) 0 it acc { cenv with scope := relabel scope env }) (RR acc cenv.locals) s₄) E s₃) E s₂) E s := by
  refine startN (iter := iter) S.hh (S.src.list S.F.keep S.N) S.F S.N hcell hkind fun I D C oC h₁ tk₁ n0 nDI nCI nCD nIL nDL nCL zI zD zC hit F1 N1 ho off => ?_
  refine loopG (own := [(C, oC)]) (as := [C]) (news := news) (OwnOk := fun own => ∃ o, own = [(C, o)] ∧ ∃ m', NsObj o m') (S := fun nw => SrcAt h₀ ax its nw ∧ ∀ p ∈ items, p ∈ nw) S.hh n0 S.sz nDI (by simpa using Ne.symm nCI) (by simpa using Ne.symm nCD) nDL zD nIL zI ?_ (fun _ h => h.1) ?_ hit F1 N1
    (fun p hp => ⟨(off p hp).1, (off p hp).2.1, by simpa using (off p hp).2.2⟩) ⟨S.src, S.sub⟩ ⟨oC, rfl, ho⟩ rfl (S.rest nDI nCI nCD its.size 0 [] news (by omega) S.init) ?_
  · rintro v own ⟨t, v1, v2, v3, n, oC, m₂, rfl, hm, rfl, hC, e1, e2, e3⟩
    exact ⟨oC, rfl, m₂, hC⟩
  · rintro v own oI ys nw h tk' Q E' ⟨i, hi⟩ hlj ⟨o, rfl, ho'⟩ has F N off' ⟨hS, hsub⟩ hQ
    obtain ⟨t, v1, v2, v3, n, rfl, hm⟩ := S.hits i v hi
    have ht : h.IsList t #[v1, v2, v3] := ⟨_, (N _ (.tail _ (.tail _ (.tail _ (hsub _ hm))))).1, rfl, _, rfl⟩
    refine assign3 (s := { s with heap := h, toks := tk' }) S.hh (kind_relabel h1) (kind_relabel h2) (kind_relabel h3) h12 h13 h23 (C := C) rfl (by show (relabel scope env).kind = _; exact hkind) F N nCI nCD (fun p hp => by simpa using (off' p hp).2.2) ho' hlj ht fun oC' m₂ h' tk'' hC e1 e2 e3 F' N' => ?_
    exact hQ [(C, oC')] h' tk'' ⟨t, v1, v2, v3, n, oC', m₂, rfl, hm, rfl, hC, e1, e2, e3⟩ rfl F' N'
  · rintro own h tk' ys nw F N off' ⟨o, rfl, m', ho'⟩ has hI
    have gC := N (C, o) (.tail _ (.head _))
    refine hRR D C h tk' m' ys nw F (fun p hp => N p ?_) ?_ (ho'.ns gC.1) zC zD nCL nDL nCD (fun p hp => by simpa using (off' p hp).2.2) hI
    · rcases List.mem_cons.mp hp with rfl | hp
      · exact .head _
      · exact .tail _ (.tail _ hp)
    · exact (Off3.of (I := D) (C := D) fun p hp => ⟨(off' p hp).2.1, (off' p hp).2.1, (off' p hp).2.1⟩).one
theorem ListComp_3 {Q : Value → Shared → Prop} (hclos : closureFor scope env = pure cl) (hcell : ∀ y ∈ scope.names, y.2 ≠ .cell) (hkind : scope.kind = .function)
    (hnames : ∀ y ∈ scope.names, y.2 = .local → scope.names.lookup y.1 = some .local) (h1 : scope.names.lookup x1 = some .local) (h2 : scope.names.lookup x2 = some .local) (h3 : scope.names.lookup x3 = some .local) (h12 : x1 ≠ x2) (h13 : x1 ≠ x3) (h23 : x2 ≠ x3)
    (h : wpAny (model prog w) A (eval iter env) (fun xv s₁ => Held (∃ ax its news items Inv, xv = .ref ax ∧ Src3 prog w A h₀ L m env ifs elt x1 x2 x3 scope cl ax its news items Inv s₁ ∧
      ∀ D ys news' h tk, Inv its.size ys news' → Fr h₀ L h m → News h₀ L h ((D, lst ys) :: news') → Off1 D news' → Q (.ref D) { s₁ with heap := h, toks := tk })) E s)
    (hs : ∀ x, foldedSetIterable iter env x = pure x := by intro _; rfl) :
    wpAny (model prog w) A (eval (.ListComp elt [⟨.Tuple [.Name x1 px1, .Name x2 px2, .Name x3 px3] tk tp, iter, ifs, 0⟩] scope pos) env) Q E s := by
  rw [eval_ListComp]
  refine wpAny_comprehension_free (use := none) rfl hs hclos hkind hnames (wpAny_mono h (fun xv s₁ h₁ => ?_) fun _ _ e => e)
  obtain ⟨ax, its, news, items, Inv, rfl, S, fin⟩ := h₁
  refine loop3 hkind hcell h1 h2 h3 h12 h13 h23 S fun D C h tk m' ys news' F' N' o1 hn hC₀ hD₀ hCL hDL hCD offC hI => ?_
  refine ⟨m', hn, fun h'' hs'' => fin D ys news' h'' tk hI (F'.change hs'' hCL hC₀) (fun p hp => ?_) o1⟩
  refine ⟨hs''.extBut _ _ ?_ (N' p hp).1, (N' p hp).2⟩
  rcases List.mem_cons.mp hp with rfl | hp
  · exact Ne.symm hCD
  · exact offC p hp
theorem Assign_ListComp_3 {y : Str} {py spos : Pos} {Q : Flow → Shared → Prop} (hLe : env.locals = L)
    (hsw : swapsWith (.ListComp elt [⟨.Tuple [.Name x1 px1, .Name x2 px2, .Name x3 px3] tk tp, iter, ifs, 0⟩] scope pos) (some (.Name y py)) spos.line env = pure true)
    (hclos : closureFor scope env = pure cl) (hcell : ∀ y ∈ scope.names, y.2 ≠ .cell) (hkind : scope.kind = .function)
    (hnames : ∀ y ∈ scope.names, y.2 = .local → scope.names.lookup y.1 = some .local) (h1 : scope.names.lookup x1 = some .local) (h2 : scope.names.lookup x2 = some .local) (h3 : scope.names.lookup x3 = some .local) (h12 : x1 ≠ x2) (h13 : x1 ≠ x3) (h23 : x2 ≠ x3)
    (hy : env.kindOf y = some .local) (hp : (env.scope.kind == .class || (env.scope.kind == .module && env.locals != env.globals)) = false)
    (h : wpAny (model prog w) A (eval iter env) (fun xv s₁ => Held (∃ ax its news items Inv, xv = .ref ax ∧ Src3 prog w A h₀ L m env ifs elt x1 x2 x3 scope cl ax its news items Inv s₁ ∧
      ∀ D ys news' h tk, Inv its.size ys news' → Fr h₀ L h (fun z => if z = y then some (.ref D) else m z) → News h₀ L h ((D, lst ys) :: news') → Off1 D news' → Q .next { s₁ with heap := h, toks := tk })) E s)
    (hs : ∀ x, foldedSetIterable iter env x = pure x := by intro _; rfl) :
    wpAny (model prog w) A (exec (.Assign [.Name y py] (.ListComp elt [⟨.Tuple [.Name x1 px1, .Name x2 px2, .Name x3 px3] tk tp, iter, ifs, 0⟩] scope pos) spos) env) Q E s := by
  subst hLe
  rw [exec_Assign_Name_used _ _ _ _ hsw]
  refine wpAny_bind (wpAny_standAt (wpAny_bind ?_))
  show wpAny _ A (do let _ ← comprehension (.ListComp elt [⟨.Tuple [.Name x1 px1, .Name x2 px2, .Name x3 px3] tk tp, iter, ifs, 0⟩] scope pos) scope env _ (newList []) false (eval iter env) (some (assign (.Name y py) env))) _ _ s
  refine wpAny_bind (wpAny_mono (wpAny_comprehension_free (use := some (assign (.Name y py) env)) (Q := fun _ s' => Q .next s') rfl hs hclos hkind hnames
    (wpAny_mono h (fun xv s₁ h₁ => ?_) fun _ _ e => e)) (fun _ s' hq => wpAny_pure (wpAny_pure hq)) fun _ _ e => e)
  obtain ⟨ax, its, news, items, Inv, rfl, S, fin⟩ := h₁
  refine loop3 hkind hcell h1 h2 h3 h12 h13 h23 S fun D C h tk m' ys news' F' N' o1 hn hC₀ hD₀ hCL hDL hCD offC hI => ?_
  show wpAny _ A (assign (.Name y py) env (.ref D)) _ _ _
  refine wpAny_assign_Name (wpAny_storeName_local hy F'.ns (fun h₂ hn₂ hs₂ => ?_) hp)
  have hL₀ : h₀.get? env.locals = none := Heap.get?_none_of_le F'.above
  have F₂ : Fr h₀ env.locals h₂ (fun z => if z = y then some (.ref D) else m z) := ⟨hn₂, fun b o e => hs₂.extBut b o (fun q => by rw [q, hL₀] at e; cases e) (F'.keep b o e), F'.above⟩
  refine ⟨m', hn.sameBut hs₂ hCL, fun h'' hs'' => fin D ys news' h'' _ hI (F₂.change hs'' hCL hC₀) (fun p hp => ?_) o1⟩
  have z : h₂.get? p.1 = some p.2 := hs₂.extBut _ _ (N' p hp).2.1 (N' p hp).1
  refine ⟨hs''.extBut _ _ ?_ z, (N' p hp).2⟩
  rcases List.mem_cons.mp hp with rfl | hp
  · exact Ne.symm hCD
  · exact offC p hp
end
end SCL5
section SCL6
open PySem PySem.Spec PySem.Calls PyProof.Rows
open LCg
set_option Elab.async false
set_option maxRecDepth 100000
section
variable {prog : Program} {w : World} {A : Around} {E : Value → Shared → Prop} {s : Shared} {h₀ : Heap} {L : Addr} {m : Str → Option Value} {env : Env}
theorem forC {α β : Type} {M : Model} {x : α} {l : List α} {b : β} {f : α → β → Sem (ForInStep β)} {Q : β → Shared → Prop} (h : wpAny M A (f x b) (fun r s' => match r with | .yield c => wpAny M A (forIn l c f) Q E s' | .done c => Q c s') E s) : wpAny M A (forIn (x :: l) b f) Q E s := by
  rw [List.forIn_cons]
  refine wpAny_bind (wpAny_mono h (fun r s' hr => ?_) fun _ _ e => e)
  cases r with
  | done c => exact wpAny_pure hr
  | yield c => exact hr
theorem forN {α β : Type} {M : Model} {b : β} {f : α → β → Sem (ForInStep β)} {Q : β → Shared → Prop} (h : Q b s) : wpAny M A (forIn [] b f) Q E s := by
  rw [List.forIn_nil]
  exact wpAny_pure h
/-- a comprehension's start, its name a cell -/
theorem startC {target elt iter : Expr} {ifs : List Expr} {n0 x y : Str} {g1 g2 : Bool} {more : List (Str × Const)} {cl : List (Str × Addr)} {pos : Pos} {ax : Addr} {its : Array Value} {news : LedC} {RR : Value → Addr → Result → Shared → Prop}
    (hh : A.handled = none) (hl : s.heap.IsList ax its) (F : Fr h₀ L s.heap m) (N : News h₀ L s.heap news)
    (h : ∀ I D C cA h₁ tk₁, ax ≠ I → D ≠ I → C ≠ I → C ≠ D → cA ≠ I → cA ≠ D → cA ≠ C → I ≠ L → D ≠ L → C ≠ L → cA ≠ L → h₀.get? I = none → h₀.get? D = none → h₀.get? C = none → h₁.IsListIter I ax 0 → Fr h₀ L h₁ m → News h₀ L h₁ ((D, lst []) :: (C, { cls := .type "dict", data := .dict #[] }) :: (cA, { cls := .type "cell", data := .cell none }) :: news) → (∀ p ∈ news, p.1 ≠ I ∧ p.1 ≠ D ∧ p.1 ≠ C ∧ p.1 ≠ cA) →
      codeAny (model prog w) A (.compLoop (.ListComp elt [⟨target, iter, ifs, 0⟩] { kind := .function, names := [(n0, .local), (x, .cell), (y, .free)], isGenerator := g1, isCoroutine := g2, more := more } pos) 0 (.ref I) (.ref D) (compEnvC { kind := .function, names := [(n0, .local), (x, .cell), (y, .free)], isGenerator := g1, isCoroutine := g2, more := more } ((x, cA) :: cl) C env)) (RR (.ref D) C) { s with heap := h₁, toks := tk₁ }) :
    wpAny (model prog w) A (pyIter (.ref ax)) (fun it s₂ => wpAny (model prog w) A (newList []) (fun acc s₃ => wpAny (model prog w) A (newFunctionEnv { kind := .function, names := [(n0, .local), (x, .cell), (y, .free)], isGenerator := g1, isCoroutine := g2, more := more } env.globals cl [] env.qual none .none (some env)) (fun cenv s₄ =>
      codeAny (model prog w) A (.compStart (.ListComp elt [⟨target, iter, ifs, 0⟩] { kind := .function, names := [(n0, .local), (x, .cell), (y, .free)], isGenerator := g1, isCoroutine := g2, more := more } pos) 0 it acc { cenv with scope := relabel { kind := .function, names := [(n0, .local), (x, .cell), (y, .free)], isGenerator := g1, isCoroutine := g2, more := more } env }) (RR acc cenv.locals) s₄) E s₃) E s₂) E s := by
  have hax : ax < s.heap.objs.size := by obtain ⟨_, e, _⟩ := hl; exact Heap.lt_size e
  refine wpAny_pyIter_list hl ?_
  refine wpAny_newObj_type ?_
  unfold newFunctionEnv
  refine wpAny_bind (wpAny_alloc ?_)
  refine wpAny_bind (forC ?_)
  refine wpAny_pure ?_
  refine forC ?_
  refine wpAny_bind (m := alloc _) (wpAny_alloc (wpAny_pure ?_))
  refine forC ?_
  refine wpAny_pure ?_
  refine forN ?_
  refine wpAny_bind (m := forIn [] _ _) (forN (wpAny_pure ?_))
  dsimp only
  generalize hI : s.heap.objs.size = I
  generalize hH1 : s.heap.push { cls := .type "list_iterator", data := .fields #[.ref ax, .int 0 0] } = H1
  have sz1 : H1.objs.size = I + 1 := by rw [← hH1, Heap.size_push, hI]
  generalize hD : H1.objs.size = D
  generalize hH2 : H1.push { cls := .type "list", dict := none, data := .seq ([] : List Value).toArray } = H2
  have sz2 : H2.objs.size = D + 1 := by rw [← hH2, Heap.size_push, hD]
  generalize hC : H2.objs.size = C
  simp only [Option.isSome_some, if_true]
  generalize hH3 : H2.push { cls := .type "dict", data := .dict #[] } = H3
  have sz3 : H3.objs.size = C + 1 := by rw [← hH3, Heap.size_push, hC]
  generalize hcA : H3.objs.size = cA
  generalize hH4 : H3.push { cls := .type "cell", data := .cell none } = h₁
  have lID : I < D := by rw [← hD, sz1]; exact Nat.lt_succ_self _
  have lDC : D < C := by rw [← hC, sz2]; exact Nat.lt_succ_self _
  have lCA : C < cA := by rw [← hcA, sz3]; exact Nat.lt_succ_self _
  have lIC := Nat.lt_trans lID lDC
  have lIA := Nat.lt_trans lIC lCA
  have lDA := Nat.lt_trans lDC lCA
  have hL : L < I := hI ▸ F.ns.lt
  have up : ∀ b o, s.heap.get? b = some o → h₁.get? b = some o := fun b o e => by
    exact hH4 ▸ Heap.get?_push_of_some _ (hH3 ▸ Heap.get?_push_of_some _ (hH2 ▸ Heap.get?_push_of_some _ (hH1 ▸ Heap.get?_push_of_some _ e)))
  have gI : h₁.get? I = some { cls := .type "list_iterator", data := .fields #[.ref ax, .int 0 0] } := hH4 ▸ Heap.get?_push_of_some _ (hH3 ▸ Heap.get?_push_of_some _ (hH2 ▸ Heap.get?_push_of_some _ (by rw [← hH1, ← hI]; exact Heap.get?_push_size _ rfl)))
  have gD : h₁.get? D = some (lst []) := hH4 ▸ Heap.get?_push_of_some _ (hH3 ▸ Heap.get?_push_of_some _ (by rw [← hH2, ← hD]; exact Heap.get?_push_size _ rfl))
  have gC : h₁.get? C = some { cls := .type "dict", data := .dict #[] } := hH4 ▸ Heap.get?_push_of_some _ (by rw [← hH3, ← hC]; exact Heap.get?_push_size _ rfl)
  have gA : h₁.get? cA = some { cls := .type "cell", data := .cell none } := by rw [← hH4, ← hcA]; exact Heap.get?_push_size _ rfl
  have zI : h₀.get? I = none := h0_none F (Nat.le_of_eq hI)
  have zD : h₀.get? D = none := h0_none F (by rw [hI]; exact Nat.le_of_lt lID)
  have zC : h₀.get? C = none := h0_none F (by rw [hI]; exact Nat.le_of_lt lIC)
  have zA : h₀.get? cA = none := h0_none F (by rw [hI]; exact Nat.le_of_lt lIA)
  have offN : ∀ p ∈ news, p.1 < I := fun p hp => hI ▸ Heap.lt_size (N p hp).1
  have start := h I D C cA h₁ s.toks (Nat.ne_of_lt (hI ▸ hax)) (Nat.ne_of_gt lID) (Nat.ne_of_gt lIC) (Nat.ne_of_gt lDC) (Nat.ne_of_gt lIA) (Nat.ne_of_gt lDA) (Nat.ne_of_gt lCA) (Nat.ne_of_gt hL) (Nat.ne_of_gt (Nat.lt_trans hL lID)) (Nat.ne_of_gt (Nat.lt_trans hL lIC)) (Nat.ne_of_gt (Nat.lt_trans hL lIA)) zI zD zC ⟨_, gI, rfl, rfl⟩ (F.keeps up) (fun p hp => by
    rcases List.mem_cons.mp hp with rfl | hp
    · exact ⟨gD, Nat.ne_of_gt (Nat.lt_trans hL lID), zD⟩
    · rcases List.mem_cons.mp hp with rfl | hp
      · exact ⟨gC, Nat.ne_of_gt (Nat.lt_trans hL lIC), zC⟩
      · rcases List.mem_cons.mp hp with rfl | hp
        · exact ⟨gA, Nat.ne_of_gt (Nat.lt_trans hL lIA), zA⟩
        · exact ⟨up _ _ (N p hp).1, (N p hp).2⟩) (fun p hp => ⟨Nat.ne_of_lt (offN p hp), Nat.ne_of_lt (Nat.lt_trans (offN p hp) lID), Nat.ne_of_lt (Nat.lt_trans (offN p hp) lIC), Nat.ne_of_lt (Nat.lt_trans (offN p hp) lIA)⟩)
  have W := Walks.list (prog := prog) (w := w) (A := A) hh I ax (Nat.ne_of_lt (hI ▸ hax)) its
  exact codeAny_compStart_list start (W.self 0 _ _ _ ⟨⟨_, gI, rfl, rfl⟩, hl.at fun o e => up _ _ e⟩ start)
end
end SCL6
section SCL7
open PySem PySem.Spec PySem.Calls PyProof.Rows
open LCg
set_option Elab.async false
set_option maxRecDepth 100000
noncomputable abbrev scC (n0 x y : Str) (g1 g2 : Bool) (more : List (Str × Const)) : Scope := { kind := .function, names := [(n0, .local), (x, .cell), (y, .free)], isGenerator := g1, isCoroutine := g2, more := more }
noncomputable abbrev cellO (v : Value) : Obj := { cls := .type "cell", data := .cell (some v) }
/-- a source whose name is a cell, with what holds turn by turn -/
structure SrcC (prog : Program) (w : World) (A : Around) (h₀ : Heap) (L : Addr) (m : Str → Option Value) (env : Env) (ifs : List Expr) (elt : Expr) (x : Str) (scope : Scope) (cl : List (Str × Addr)) (ax : Addr) (its : Array Value) (news : LedC) (Inv : Nat → List Value → LedC → Prop) (s₁ : Shared) : Prop where
  hh : A.handled = none
  F : Fr h₀ L s₁.heap m
  N : News h₀ L s₁.heap news
  src : SrcAt h₀ ax its news
  sz : its.size ≤ sizeLine
  init : Inv 0 [] news
  keep : ∀ i ys news', Inv i ys news' → ∀ p ∈ news, p ∈ news'
  step : ∀ (i : Nat) ys news v oI oC I C cA D o h tk (E' : Value → Shared → Prop), i < its.size → Inv i ys news → its[i]? = some v → o.data = .cell (some v) → Fr h₀ L h m → News h₀ L h ((I, oI) :: (D, lst ys) :: (C, oC) :: (cA, o) :: news) → OffG I D [C, cA] news →
    wpAny (model prog w) A (testsOf ifs (compEnvC scope ((x, cA) :: cl) C env)) (fun ok s' => if ok = true then
      wpAny (model prog w) A (eval elt (compEnvC scope ((x, cA) :: cl) C env)) (EndG h₀ L m { s₁ with heap := h, toks := tk } I oI [(C, oC), (cA, o)] D (lst ys) [C, cA] (fun _ => True) (fun y news' => Inv (i + 1) (ys ++ [y]) news')) E' s'
      else EndG h₀ L m { s₁ with heap := h, toks := tk } I oI [(C, oC), (cA, o)] D (lst ys) [C, cA] (fun _ => True) (fun _ news' => Inv (i + 1) ys news') Value.none s') E' { s₁ with heap := h, toks := tk }
section
variable {prog : Program} {w : World} {A : Around} {E : Value → Shared → Prop} {s : Shared} {h₀ : Heap} {L : Addr} {m : Str → Option Value} {env : Env} {ifs : List Expr} {elt iter : Expr} {n0 x y : Str} {g1 g2 : Bool} {more : List (Str × Const)} {px : Pos} {cl : List (Str × Addr)} {pos : Pos}
noncomputable abbrev OwnCV (C cA : Addr) (v : Value) (own : LedC) : Prop := ∃ oC m' o, own = [(C, oC), (cA, o)] ∧ NsObj oC m' ∧ o.data = .cell (some v)
theorem SrcC.rest {scope : Scope} {ax : Addr} {its : Array Value} {news : LedC} {Inv : Nat → List Value → LedC → Prop} {s₁ : Shared} (S : SrcC prog w A h₀ L m env ifs elt x scope cl ax its news Inv s₁) {I D C cA : Addr} :
    ∀ k i ys news', i + k = its.size → Inv i ys news' → RestG prog w A h₀ L m (compEnvC scope ((x, cA) :: cl) C env) ifs elt I D [C, cA] s₁ (fun nw => SrcAt h₀ ax its nw) (fun i v => its[i]? = some v) (OwnCV C cA) (Inv its.size) k i ys news'
  | 0, i, ys, news', hi, hI => by obtain rfl : i = its.size := by omega
                                  exact hI
  | k + 1, i, ys, news', hi, hI => by
    rintro v oI own h tk E' hv ⟨oC, m', o, rfl, hC, ho⟩ has F N off
    have back : ∀ {ys' : List Value} {y : Value} {s' : Shared}, EndG h₀ L m { s₁ with heap := h, toks := tk } I oI [(C, oC), (cA, o)] D (lst ys) [C, cA] (fun _ => True) (fun _ news' => Inv (i + 1) ys' news') y s' →
        EndG h₀ L m { s₁ with heap := h, toks := tk } I oI [(C, oC), (cA, o)] D (lst ys) [C, cA] (fun nw => SrcAt h₀ ax its nw) (fun _ news' => RestG prog w A h₀ L m (compEnvC scope ((x, cA) :: cl) C env) ifs elt I D [C, cA] s₁ (fun nw => SrcAt h₀ ax its nw) (fun i v => its[i]? = some v) (OwnCV C cA) (Inv its.size) k (i + 1) ys' news') y s' := by
      rintro ys' y s' ⟨h', tk', nw, rfl, F', N', off', _, r⟩
      refine ⟨h', tk', nw, rfl, F', N', off', ?_, S.rest k (i + 1) ys' nw (by omega) r⟩
      rcases S.src with h1 | ⟨o, h1, h2⟩
      · exact .inl h1
      · exact .inr ⟨o, S.keep _ _ _ r _ h1, h2⟩
    refine wpAny_mono (S.step i ys news' v oI oC I C cA D o h tk E' (by omega) hI hv ho F N off) (fun ok s' hs' => ?_) fun _ _ e => e
    cases ok with
    | true =>
      simp only [if_true] at hs' ⊢
      exact wpAny_mono hs' (fun y s'' h'' => by
        obtain ⟨h', tk', nw, e, F', N', off', _, r⟩ := h''
        obtain ⟨h1, tk1, nw1, a1, a2, a3, a4, a5, a6⟩ := back (ys' := ys ++ [y]) (y := y) ⟨h', tk', nw, e, F', N', off', trivial, r⟩
        exact ⟨h1, tk1, nw1, a1, a2, a3, a4, a5, a6⟩) fun _ _ e => e
    | false =>
      simp only [Bool.false_eq_true, if_false] at hs' ⊢
      exact back hs'
theorem Assign_ListComp_C {z : Str} {pz spos : Pos} {Q : Flow → Shared → Prop} (hLe : env.locals = L)
    (hsw : swapsWith (.ListComp elt [⟨.Name x px, iter, ifs, 0⟩] (scC n0 x y g1 g2 more) pos) (some (.Name z pz)) spos.line env = pure true)
    (hclos : closureFor (scC n0 x y g1 g2 more) env = pure cl) (hnx : n0 ≠ x) (hcx : (compEnvC (scC n0 x y g1 g2 more) [] 0 env).kindOf x = some .cell)
    (hz : env.kindOf z = some .local) (hp : (env.scope.kind == .class || (env.scope.kind == .module && env.locals != env.globals)) = false)
    (h : wpAny (model prog w) A (eval iter env) (fun xv s₁ => Held (∃ ax its news Inv, xv = .ref ax ∧ SrcC prog w A h₀ L m env ifs elt x (scC n0 x y g1 g2 more) cl ax its news Inv s₁ ∧
      ∀ D ys news' h tk, Inv its.size ys news' → Fr h₀ L h (fun u => if u = z then some (.ref D) else m u) → News h₀ L h ((D, lst ys) :: news') → Off1 D news' → Q .next { s₁ with heap := h, toks := tk })) E s)
    (hs : ∀ x, foldedSetIterable iter env x = pure x := by intro _; rfl) :
    wpAny (model prog w) A (exec (.Assign [.Name z pz] (.ListComp elt [⟨.Name x px, iter, ifs, 0⟩] (scC n0 x y g1 g2 more) pos) spos) env) Q E s := by
  subst hLe
  rw [exec_Assign_Name_used _ _ _ _ hsw]
  refine wpAny_bind (wpAny_standAt (wpAny_bind ?_))
  show wpAny _ A (do let _ ← comprehension (.ListComp elt [⟨.Name x px, iter, ifs, 0⟩] (scC n0 x y g1 g2 more) pos) (scC n0 x y g1 g2 more) env _ (newList []) false (eval iter env) (some (assign (.Name z pz) env))) _ _ s
  refine wpAny_bind (wpAny_mono (wpAny_comprehension_free (use := some (assign (.Name z pz) env)) (Q := fun _ s' => Q .next s') rfl hs hclos rfl (by
      intro u hu hl
      simp only [List.mem_cons, List.not_mem_nil, or_false] at hu
      rcases hu with rfl | rfl | rfl
      · simp [List.lookup]
      · cases hl
      · cases hl)
    (wpAny_mono h (fun xv s₁ h₁ => ?_) fun _ _ e => e)) (fun _ s' hq => wpAny_pure (wpAny_pure hq)) fun _ _ e => e)
  obtain ⟨ax, its, news, Inv, rfl, S, fin⟩ := h₁
  refine startC (iter := iter) S.hh (S.src.list S.F.keep S.N) S.F S.N fun I D C cA h₁ tk₁ n0 nDI nCI nCD nAI nAD nAC nIL nDL nCL nAL zI zD zC hit F1 N1 off => ?_
  refine loopG (own := [(C, { cls := .type "dict", data := .dict #[] }), (cA, { cls := .type "cell", data := .cell none })]) (as := [C, cA]) (news := news) (OwnOk := fun own => ∃ oC m' o v, own = [(C, oC), (cA, o)] ∧ NsObj oC m' ∧ o.data = .cell v) (S := fun nw => SrcAt h₀ ax its nw) S.hh n0 S.sz nDI ?_ ?_ nDL zD nIL zI ?_ (fun _ h => h) ?_ hit F1 N1
    (fun p hp => ⟨(off p hp).1, (off p hp).2.1, ?_⟩) S.src ⟨_, fun _ => none, _, none, rfl, ⟨#[], _, rfl, ?_, ?_⟩, rfl⟩ rfl (S.rest its.size 0 [] news (by omega) S.init) ?_
  · simp only [List.mem_cons, List.not_mem_nil, or_false, not_or]; exact ⟨Ne.symm nCI, Ne.symm nAI⟩
  · simp only [List.mem_cons, List.not_mem_nil, or_false, not_or]; exact ⟨Ne.symm nCD, Ne.symm nAD⟩
  · rintro v own ⟨oC, m', o, rfl, hC, ho⟩
    exact ⟨oC, m', o, _, rfl, hC, ho⟩
  · rintro v own oI ys nw h tk' Q' E' ⟨i, hi⟩ hlj ⟨oC, m', o, v0, rfl, hC, ho⟩ has F N off' hS hQ
    have zA := N (cA, o) (.tail _ (.tail _ (.tail _ (.head _))))
    refine wpAny_of_eq (a := ()) rfl ?_
    refine wpAny_assign_Name (wpAny_storeName_cell (c := cA) (v₀ := v0) (by rfl) hcx (by simp [compEnvC, List.lookup]) ⟨o, zA.1, ho⟩ fun h2 hc2 hs2 => ?_)
    obtain ⟨o2, g2, d2⟩ := hc2
    have up : ∀ b o', b ≠ cA → h.get? b = some o' → h2.get? b = some o' := fun b o' hb e => hs2.extBut b o' hb e
    refine hQ [(C, oC), (cA, o2)] h2 _ ⟨oC, m', o2, rfl, hC, d2⟩ rfl ⟨F.ns.at' fun o e => up _ o (Ne.symm nAL) e, fun b o' e => up b o' (fun q => by rw [q, zA.2.2] at e; cases e) (F.keep b o' e), F.above⟩ fun p hp => ?_
    rcases List.mem_cons.mp hp with rfl | hp
    · exact ⟨up _ _ (Ne.symm nAI) (N _ (.head _)).1, (N _ (.head _)).2⟩
    · rcases List.mem_cons.mp hp with rfl | hp
      · exact ⟨up _ _ (Ne.symm nAD) (N _ (.tail _ (.head _))).1, (N _ (.tail _ (.head _))).2⟩
      · rcases List.mem_cons.mp hp with rfl | hp
        · exact ⟨up _ _ (Ne.symm nAC) (N _ (.tail _ (.tail _ (.head _)))).1, (N _ (.tail _ (.tail _ (.head _)))).2⟩
        · rcases List.mem_cons.mp hp with rfl | hp
          · exact ⟨g2, zA.2⟩
          · have hne : p.1 ≠ cA := by
              have := (off' p hp).2.2
              simp only [List.mem_cons, List.not_mem_nil, or_false, not_or] at this
              exact this.2
            exact ⟨up _ _ hne (N _ (.tail _ (.tail _ (.tail _ (.tail _ hp))))).1, (N _ (.tail _ (.tail _ (.tail _ (.tail _ hp))))).2⟩
  · simp only [List.mem_cons, List.not_mem_nil, or_false, not_or]; exact (off p hp).2.2
  · intro e he; simp at he
  · intro name; rfl
  · rintro own h tk' ys nw F N off' ⟨oC, m', o, v0, rfl, hC, ho⟩ has hI
    have gC := N (C, oC) (.tail _ (.head _))
    show wpAny _ A (assign (.Name z pz) env (.ref D)) _ _ _
    refine wpAny_assign_Name (wpAny_storeName_local hz F.ns (fun h₂ hn₂ hs₂ => ?_) hp)
    have hL₀ : h₀.get? env.locals = none := Heap.get?_none_of_le F.above
    have F₂ : Fr h₀ env.locals h₂ (fun u => if u = z then some (.ref D) else m u) := ⟨hn₂, fun b o e => hs₂.extBut b o (fun q => by rw [q, hL₀] at e; cases e) (F.keep b o e), F.above⟩
    refine ⟨m', (hC.ns gC.1).sameBut hs₂ nCL, fun h'' hs'' => fin D ys nw h'' _ hI (F₂.change hs'' nCL zC) (fun p hp => ?_) ?_⟩
    · have hp' : p ∈ (D, lst ys) :: ([(C, oC), (cA, o)] ++ nw) := by
        rcases List.mem_cons.mp hp with rfl | hp
        · exact .head _
        · exact .tail _ (List.mem_append_right _ hp)
      refine ⟨hs''.extBut _ _ ?_ (hs₂.extBut _ _ (N p hp').2.1 (N p hp').1), (N p hp').2⟩
      rcases List.mem_cons.mp hp with rfl | hp
      · exact Ne.symm nCD
      · have := (off' p hp).2.2
        simp only [List.mem_cons, List.not_mem_nil, or_false, not_or] at this
        exact this.1
    · exact (Off3.of (I := D) (C := D) fun p hp => ⟨(off' p hp).2.1, (off' p hp).2.1, (off' p hp).2.1⟩).one
end
end SCL7
section SQ2
open PySem PySem.W PyProof.Rows PySem.Calls
set_option Elab.async false
set_option maxRecDepth 100000
set_option maxHeartbeats 1600000
section
variable {prog : Program} {w : World} {A : Around} {E : Value → Shared → Prop} {s : Shared} {h₀ : Heap} {L : Addr} {m : Str → Option Value} {env : Env}
/-- a range of any step, and the turns over it -/
noncomputable def RngSrc (prog : Program) (w : World) (A : Around) (h₀ : Heap) (L : Addr) (m : Str → Option Value) (env : Env) (elt : Expr) (x : Str) (scope : Scope) (cl : List (Str × Addr)) (Q : Value → Shared → Prop) (xv : Value) (s₁ : Shared) : Prop :=
  ∃ r a b c t u v n news, xv = .ref r ∧ A.handled = none ∧ Fr h₀ L s₁.heap m ∧ News h₀ L s₁.heap news ∧ IsRange s₁.heap r a b c t u v ∧ Builtin.Range.small a b c = true ∧ Builtin.Range.rangeSize a b c = ((n : Nat) : Int) ∧ n ≤ sizeLine ∧
    ∀ s₂ : Shared, (∃ h, s₂ = { s₁ with heap := h }) → LCg.CompRest prog w A h₀ L m env elt x scope cl s₂ (fun _ => True) (fun i v => ∃ t, v = .int (a + (i : Int) * c) t) (LCg.FinE h₀ L m s₂ Q) n 0 [] news
theorem ListComp_V {elt iter : Expr} {x : Str} {px : Pos} {scope : Scope} {cl : List (Str × Addr)} {pos : Pos} {Q : Value → Shared → Prop} (F₀ : Fr h₀ L s.heap m)
    (hclos : closureFor scope env = pure cl) (hcell : ∀ y ∈ scope.names, y.2 ≠ .cell) (hkind : scope.kind = .function)
    (hnames : ∀ y ∈ scope.names, y.2 = .local → scope.names.lookup y.1 = some .local) (hx : scope.names.lookup x = some .local)
    (h : wpAny (model prog w) A (eval iter env) (RngSrc prog w A h₀ L m env elt x scope cl Q) E s)
    (hs : ∀ x, foldedSetIterable iter env x = pure x := by intro _; rfl) :
    wpAny (model prog w) A (eval (.ListComp elt [⟨.Name x px, iter, [], 0⟩] scope pos) env) Q E s := by
  rw [eval_ListComp]
  refine wpAny_comprehension_free (use := none) rfl hs hclos hkind hnames (wpAny_mono h (fun xv s₁ h₁ => ?_) fun _ _ e => e)
  obtain ⟨r, a, b, c, t, u, v, n, news, rfl, hh, F, N, hr, hsm, hn, hsz, R⟩ := h₁
  refine wpAny_pyIter_range hr hsm ?_
  refine LCg.block_U (Walks.range hh _ a c n) hsz (fun i h st => ⟨_, st⟩) (fun i h h' o nw st e e' _ _ _ => by
      have st' : h.get? _ = some _ := st
      show h'.get? _ = some _
      rw [e', ← e]; exact st') hcell hkind hx (by show IsRangeIter _ _ _ _ _; rw [hn]; simpa using Heap.get?_push_size _ rfl) (fun b hb => ?_)
    (F.keeps fun _ _ e => Heap.get?_push_of_some _ e) (N.grown fun _ _ e => Heap.get?_push_of_some _ e) (Nat.ne_of_lt F.ns.lt) (next_is_new F) (fun p hp => Nat.ne_of_lt (Heap.lt_size (N p hp).1)) trivial (R _ ⟨_, rfl⟩) ?_
  · rw [List.mem_singleton.mp hb]
    show s₁.heap.objs.size < (s₁.heap.push _).objs.size
    rw [Heap.size_push]; exact Nat.lt_succ_self _
  · intro D C h tk m' ys news' F' N' o1 hn hC₀ hD₀ hCL hDL hCD offC fin
    refine ⟨m', hn, fun h'' hs'' => fin D h'' tk (F'.change hs'' hCL hC₀) (fun p hp => ?_) o1⟩
    refine ⟨hs''.extBut _ _ ?_ (N' p hp).1, (N' p hp).2⟩
    rcases List.mem_cons.mp hp with rfl | hp
    · exact Ne.symm hCD
    · exact offC p hp
end
end SQ2
section SG1
open PySem PySem.W PyProof.Rows PySem.Calls
set_option Elab.async false
set_option maxRecDepth 100000
set_option maxHeartbeats 1600000
structure GSt where
  vals : List Value
  n : Nat
/-- one turn of a loop that appends a text -/
noncomputable def GrowPost (h₀ : Heap) (L D : Addr) (vals : List Value) (y : Str) (post own : Led) (x : Str) (m₀ : Str → Option Value) (s : Shared) (f : Flow) (s₂ : Shared) : Prop :=
  (f = .next ∨ f = .cont) ∧ ∃ (h' : Heap) (tk' : Nat) (m' : Str → Option Value) (n' : Nat) (t' : Tok), s₂ = { s with heap := h', toks := tk' } ∧ Fr h₀ L h' m' ∧ News h₀ L h' ((D, W.listOf (vals ++ [Value.str y t']).toArray n') :: (post ++ own)) ∧ (∀ z, z ≠ x → m' z = m₀ z)
theorem GrowPost.intro {h₀ : Heap} {L D : Addr} {vals : List Value} {y : Str} {post own : Led} {x : Str} {m₀ m' : Str → Option Value} {s : Shared} {h' : Heap} {tk' : Nat} {t' : Tok} {n' : Nat}
    (F : Fr h₀ L h' m') (N : News h₀ L h' ((D, W.listOf (vals.toArray.push (Value.str y t')) n') :: (post ++ own))) (e : ∀ z, z ≠ x → m' z = m₀ z) : GrowPost h₀ L D vals y post own x m₀ s .next { s with heap := h', toks := tk' } :=
  ⟨.inl rfl, h', tk', m', n', t', rfl, F, by rw [List.push_toArray] at N; exact N, e⟩
theorem datAll_strs {news : Led} : ∀ {its : List Value} {ss : List Str}, StrsAre its ss → DatAll news its (ss.map Dat.str)
  | _, _, .nil => .nil
  | _, _, .cons _ _ r => .cons (.str _ _) (datAll_strs r)
section
variable {prog : Program} {w : World} {A : Around} {E : Value → Shared → Prop} {s : Shared} {env : Env} {h₀ : Heap} {x : Str} {body : List Stmt} {Q : Flow → Shared → Prop}
theorem grow_loop {l D : Addr} {its vals₀ : List Value} {ags ss₀ : List Str} {k kD : Nat} {news : Led} {m₀ : Str → Option Value} (g : Str → Str) (hl : (l, W.listOf its.toArray k) ∈ news) (hh : A.handled = none) (hA : StrsAre its ags) (h0 : StrsAre vals₀ ss₀) (F : Fr h₀ env.locals s.heap m₀)
    (N : News h₀ env.locals s.heap ((D, W.listOf vals₀.toArray kD) :: news)) (hD : ∀ p ∈ news, p.1 ≠ D)
    (turn : ∀ a t vals n h tk own, a ∈ ags → vals.length ≤ vals₀.length + its.length → (∀ p ∈ own, p.1 ≠ D) → Fr h₀ env.locals h (fun y => if y = x then some (.str a t) else m₀ y) → News h₀ env.locals h ((D, W.listOf vals.toArray n) :: (news ++ own)) →
      wpAny (model prog w) A (execs body env) (GrowPost h₀ env.locals D vals (g a) news own x m₀ { s with heap := h, toks := tk }) E { s with heap := h, toks := tk })
    (done : ∀ vals n (u : Str → Option Value) h tk, StrsAre vals (ss₀ ++ ags.map g) → Fr h₀ env.locals h (fun y => if y = x then u y else m₀ y) → News h₀ env.locals h ((D, W.listOf vals.toArray n) :: news) → Q .next { s with heap := h, toks := tk }) :
    wpAny (model prog w) A (pyIter (.ref l)) (fun it s₂ => LoopAtV prog w A h₀ env x body Q E it s₂) E s := by
  have hlen : its.length = ags.length := (datAll_strs (news := []) hA).length.trans (List.length_map ..)
  refine kd_listL (σ := GSt) (fun c => [(D, W.listOf c.vals.toArray c.n)]) news (fun _ => []) (fun _ _ => True) [] (fun pre c => ∃ as : List Str, pre = as.map Dat.str ∧ StrsAre c.vals (ss₀ ++ as.map g)) (((D, W.listOf vals₀.toArray kD) :: news).map (·.1)) ⟨vals₀, kD⟩ hh hl (datAll_strs hA) F N (by simp) (fun c => by simp) trivial (fun _ h => nomatch h) ⟨[], rfl, by simpa using h0⟩ ?_ ?_
  · rintro ⟨vals, n⟩ tl pre d post v u h tk own hds hd hv hsep hoff - ⟨as, hpre, hss⟩ F₁ N₁
    obtain ⟨a, ha, rfl⟩ := List.mem_map.mp hd
    cases hv with
    | str _ t =>
      dsimp only at hss N₁
      have hl2 : vals.length ≤ vals₀.length + its.length := by
        have e1 := (datAll_strs (news := []) hss).length
        have e2 := (datAll_strs (news := []) h0).length
        have e3 := congrArg List.length hds
        have e4 := congrArg List.length hpre
        simp only [List.length_map, List.length_append, List.length_cons] at e1 e2 e3 e4
        omega
      have hoD : ∀ p ∈ tl ++ own, p.1 ≠ D := fun p hp => hoff p hp D (by simp)
      have N₂ : News h₀ env.locals h ((D, W.listOf vals.toArray n) :: (news ++ (tl ++ own))) := by simpa using N₁
      refine wpAny_mono (turn a t vals n h tk (tl ++ own) ha hl2 hoD (by simpa [kstB] using F₁) N₂) (fun f s₂ hf => ?_) fun _ _ e => e
      obtain ⟨hfl, h', tk', m', n', t', rfl, F', N', e3⟩ := hf
      have fin : InvEndG h₀ env.locals (KdS (fun c : GSt => [(D, W.listOf c.vals.toArray c.n)]) news (fun _ => []) (fun _ _ => True) x [] m₀ (fun pre c => ∃ as : List Str, pre = as.map Dat.str ∧ StrsAre c.vals (ss₀ ++ as.map g)) (((D, W.listOf vals₀.toArray kD) :: news).map (·.1)) (pre ++ [Dat.str a])) own { s with heap := h, toks := tk } { s with heap := h', toks := tk' } := by
        refine kd_end (s₁ := { s with heap := h, toks := tk }) ⟨vals ++ [Value.str (g a) t'], n'⟩ [] hsep F' N' ?_ ?_ (by simp) (fun _ h => nomatch h) (fun _ h => nomatch h) (fun _ h => nomatch h) (fun z hz _ _ => e3 z hz) trivial ⟨as ++ [a], by rw [hpre]; simp, ?_⟩
        · intro p hp
          simp only [List.nil_append, List.cons_append, List.mem_cons, List.mem_append] at hp ⊢
          rcases hp with h | h | h <;> simp [h]
        · intro p hp
          exact .tail _ (List.mem_append_right _ (List.mem_append_right _ hp))
        · rw [List.map_append, ← List.append_assoc]
          exact StrsAre.append' hss (.cons _ _ .nil)
      rcases hfl with rfl | rfl
      · exact fin
      · exact fin
  · rintro ⟨vals, n⟩ tl u h tk hoff - ⟨as, hds, hss⟩ F₁ N₁
    have e : as = ags := by
      have hi : ∀ (l₁ l₂ : List Str), l₁.map Dat.str = l₂.map Dat.str → l₁ = l₂ := by
        intro l₁
        induction l₁ with
        | nil => intro l₂ h; cases l₂ with | nil => rfl | cons _ _ => cases h
        | cons a r ih => intro l₂ h; cases l₂ with
          | nil => cases h
          | cons b q =>
            simp only [List.map_cons, List.cons.injEq, Dat.str.injEq] at h
            rw [h.1, ih q h.2]
      exact (hi _ _ hds).symm
    subst e
    refine done vals n u h tk hss (by simpa [kstB] using F₁) fun p hp => N₁ p ?_
    simp only [List.cons_append, List.nil_append, List.mem_cons, List.mem_append] at hp ⊢
    rcases hp with h | h <;> simp [h]
end
end SG1
section SN1
open PySem PySem.W PySem.W.X PyProof.Rows PySem.Calls
set_option Elab.async false
set_option maxRecDepth 100000
set_option maxHeartbeats 1600000
noncomputable abbrev mapObj (T : Addr) (f : Value) : Obj := { cls := .type "map", dict := none, data := .fields #[.ref T, f], slots := #[] }
noncomputable abbrev tup1 (it : Addr) : Obj := { cls := .type "tuple", data := .seq #[.ref it] }
/-- map(str, ..) over a list -/
noncomputable def MapAt (I T it l : Addr) (items : Array Value) (p : Nat) (h : Heap) : Prop :=
  h.get? I = some (mapObj T (.type "str")) ∧ h.get? T = some (tup1 it) ∧ h.IsListIter it l p ∧ h.IsList l items
theorem MapAt.at {I T it l : Addr} {items : Array Value} {p : Nat} {h h' : Heap} (x : MapAt I T it l items p h) (k : ∀ b ∈ [I, T, it, l], ∀ o, h.get? b = some o → h'.get? b = some o) : MapAt I T it l items p h' := by
  obtain ⟨x1, x2, x3, x4⟩ := x
  exact ⟨k I (by simp) _ x1, k T (by simp) _ x2, x3.at fun o e => k it (by simp) o e, x4.at fun o e => k l (by simp) o e⟩
section
variable {prog : Program} {w : World} {A : Around} {E : Value → Shared → Prop} {s : Shared} {Q : Value → Shared → Prop}
theorem MapAt.typeIs {I T it l : Addr} {items : Array Value} {p : Nat} (x : MapAt I T it l items p s.heap) : s.TypeIs (.ref I) "map" := ⟨_, x.1, rfl⟩
theorem nextOf_item {it l : Addr} {i : Nat} {items : Array Value} {x : Value} (hit : s.heap.IsListIter it l i) (hl : s.heap.IsList l items) (hx : items[i]? = some x)
    (hQ : ∀ h', h'.IsListIter it l (i + 1) → Heap.SameBut it s.heap h' → Q x { s with heap := h' }) : wpAny (model prog w) A (Builtin.SmallTypes.nextOf (.ref it)) Q E s := by
  unfold Builtin.SmallTypes.nextOf
  refine wpAny_bind (wpAny_callSpecial?_slot (name := Str.ofString "__next__") hit.typeIs slot_listiter_next ?_)
  refine wpAny_listnext_item hit hl hx fun h' h1 h2 => ?_
  exact wpAny_pure (hQ h' h1 h2)
theorem map_next_item {I T it l : Addr} {items : Array Value} {p : Nat} {x : Str} {t : Tok} (hne : it ≠ I ∧ it ≠ T ∧ it ≠ l) (hM : MapAt I T it l items p s.heap) (hx : items[p]? = some (.str x t))
    (hQ : ∀ h', MapAt I T it l items (p + 1) h' → Heap.SameBut it s.heap h' → Q (.str x t) { s with heap := h' }) : wpAny (model prog w) A (call (.builtin "map.__next__") [.ref I]) Q E s := by
  have hT := hM.typeIs
  obtain ⟨x1, x2, x3, x4⟩ := hM
  refine wpAny_call_entry slot_map_next hT entry_map_next ?_ (args_map_next _)
  show wpAny _ _ (field (.ref I) 0 >>= _) _ _ s
  refine wpAny_bind (wpAny_field x1 rfl (x := .ref T) rfl ?_)
  refine wpAny_bind (wpAny_seqItems x2 rfl ?_)
  dsimp only
  refine wpAny_bind ?_
  rw [← Array.forIn_toList]
  simp only [List.forIn_cons, List.forIn_nil]
  refine wpAny_bind (wpAny_bind (wpAny_holding (nextOf_item x3 x4 hx fun h' hit' hs' => ?_)))
  refine wpAny_pure ?_
  dsimp only
  refine wpAny_pure ?_
  have ext := hs'.extBut
  have hM' : MapAt I T it l items (p + 1) h' := ⟨ext I _ hne.1.symm x1, ext T _ hne.2.1.symm x2, hit', x4.extBut ext hne.2.2.symm⟩
  refine wpAny_bind (wpAny_field (ext I _ hne.1.symm x1) rfl (x := .type "str") rfl ?_)
  refine wpAny_bind (wpAny_holding (P.str_of_str ?_))
  refine wpAny_bind (wpAny_letGo ?_)
  exact wpAny_pure ⟨_, rfl, hQ h' hM' hs'⟩
theorem map_next_end {I T it l : Addr} {items : Array Value} {p : Nat} (hh : A.handled = none) (hM : MapAt I T it l items p s.heap) (hx : items[p]? = none)
    (hE : ∀ h' e, Heap.ExtBut it s.heap h' → (∃ o, h'.get? e = some o ∧ o.cls = .type "StopIteration") → E (.ref e) { s with heap := h' }) : wpAny (model prog w) A (call (.builtin "map.__next__") [.ref I]) Q E s := by
  have hT := hM.typeIs
  obtain ⟨x1, x2, x3, x4⟩ := hM
  refine wpAny_call_entry slot_map_next hT entry_map_next ?_ (args_map_next _)
  show wpAny _ _ (field (.ref I) 0 >>= _) _ _ s
  refine wpAny_bind (wpAny_field x1 rfl (x := .ref T) rfl ?_)
  refine wpAny_bind (wpAny_seqItems x2 rfl ?_)
  dsimp only
  refine wpAny_bind ?_
  rw [← Array.forIn_toList]
  simp only [List.forIn_cons, List.forIn_nil]
  refine wpAny_bind (wpAny_bind (wpAny_holding ?_))
  unfold Builtin.SmallTypes.nextOf
  refine wpAny_bind (wpAny_callSpecial?_slot (name := Str.ofString "__next__") x3.typeIs slot_listiter_next ?_)
  exact wpAny_mono (wpAny_listnext_end (A := A.in1) hh x3 x4 hx (Q := fun _ _ => False) (E := E) hE) (fun _ _ z => z.elim) fun _ _ z => z
theorem slot_map_iter : Slot "map" "__iter__" "map.__iter__" :=
  .of (owner := "map") (n := "__iter__") (by rw [typeLookup_type, builtinLookup_eq_fast]; kernel_rfl) (by decide +kernel) (by decide +kernel) (by decide +kernel)
    (by first | exact .inl (by decide +kernel) | exact .inr (by decide +kernel)) (by rw [isSubtype_type]; kernel_rfl)
theorem entry_map_iter : entryFor table "map.__iter__" = some Builtin.«dict_keyiterator.__iter__» := entryFor_alias (id' := "dict_keyiterator.__iter__") (by kernel_rfl) rfl (by decide +kernel) (by kernel_rfl)
theorem args_map_iter (a : Value) : argsOk "map.__iter__" ⟨[a], []⟩ := by unfold argsOk; kernel_rfl
theorem map_walks {I T it l : Addr} {items : Array Value} {ss : List Str} (hss : StrsAre items.toList ss) (hh : A.handled = none) (hne : it ≠ I ∧ it ≠ T ∧ it ≠ l) :
    Walks prog w A I [I, T, it, l] [it] items.size (fun i v => items[i]? = some v) (fun i h => MapAt I T it l items i h) where
  sub := fun b hb => by rw [List.mem_singleton.mp hb]; simp
  frame := fun i h h' h3 hk => h3.at hk
  item := fun i s Q E hi h3 hQ => by
    have hget : items[i]? = some items[i] := by simp [hi]
    obtain ⟨y, ty, hy, hyy⟩ := StrsAre.item hss i items[i] (by rw [Array.getElem?_toList]; exact hget)
    rw [hy] at hget
    unfold pyNext
    refine wpAny_bind (wpAny_attempt (wpAny_callSpecial?_slot (name := Str.ofString "__next__") h3.typeIs slot_map_next ?_))
    refine map_next_item hne h3 hget fun h' hM' hs' => ?_
    exact wpAny_pure (hQ _ h' s.toks hget hM' fun b o hb e => hs'.extBut b o (by simpa using hb) e)
  done := fun s Q E h3 hQ => by
    unfold pyNext
    refine wpAny_bind (wpAny_attempt (wpAny_callSpecial?_slot (name := Str.ofString "__next__") h3.typeIs slot_map_next ?_))
    refine map_next_end hh h3 (by simp) fun h' e he ⟨o, ho, hc⟩ => ?_
    refine wpAny_bind (wpAny_isInstance (T := "StopIteration") (b := true) ⟨o, ho, hc⟩ isSubtype_stop ?_)
    exact wpAny_pure (hQ h' s.toks fun b o hb e => he b o (by simpa using hb) e)
  self := fun i s Q E h3 hQ => by
    refine wpAny_pyIter_slot h3.typeIs slot_map_iter (wpAny_call_entry slot_map_iter h3.typeIs entry_map_iter ?_ (args_map_iter _))
    show wpAny _ _ (ret (.ref I)) _ _ s
    exact wpAny_pure ⟨_, rfl, "map", _, h3.typeIs, slot_map_next.lookup, hQ⟩
set_option hygiene false in
local macro_rules | `(tactic| x_close) => `(tactic| (rename Mem _ _ _ _ => D9; exact hQ9 _ _ _ _ (grew_of D9)))
theorem map_raw (l : Addr) (vs : Array Value) (n : Nat) (hl : s.heap.get? l = some ⟨.type "list", none, .seq vs n, #[]⟩)
  (hQ9 : ∀ I T it h', Grew s.heap h' [(I, mapObj T (.type "str")), (T, tup1 it), (it, liObj l 0)] → Q (.ref I) { s with heap := h' }) :
   wpAny (model prog w) AZ (call (.type "map") [.type "str", .ref l]) Q (fun _ _ => False) s := by
  x_run
end
end SN1
section SN2
open PySem PySem.W PySem.W.X PyProof.Rows PySem.Calls
set_option Elab.async false
set_option maxRecDepth 100000
set_option maxHeartbeats 1600000
theorem plain_list_extend : plainId "list.extend" = true := by decide +kernel
section
variable {prog : Program} {w : World} {A : Around} {E : Value → Shared → Prop} {s : Shared} {h₀ : Heap} {L : Addr} {m : Str → Option Value} {news : List (Addr × Obj)} {Q : Value → Shared → Prop}
theorem k_map {l : Addr} {its : List Value} {k : Nat} (F : Fr h₀ L s.heap m) (N : News h₀ L s.heap news) (hl : (l, W.listOf its.toArray k) ∈ news) (r : Room A)
    (h : ∀ I T it h', Fr h₀ L h' m → News h₀ L h' ((I, mapObj T (.type "str")) :: (T, tup1 it) :: (it, liObj l 0) :: news) → (∀ p ∈ news, p.1 ≠ I) → (∀ p ∈ news, p.1 ≠ T) → (∀ p ∈ news, p.1 ≠ it) → it ≠ I → it ≠ T → Q (.ref I) { s with heap := h' }) :
    wpAny (model prog w) A (call (.type "map") [.type "str", .ref l]) Q E s :=
  wkz r (map_raw l its.toArray k (N _ hl).1 fun I T it h' G => h I T it h' (G.fr F) (G.news F N) (grew_ne G N (.head _)) (grew_ne G N (.tail _ (.head _))) (grew_ne G N (.tail _ (.tail _ (.head _))))
    (by
      have := G.2.2
      simp only [List.map_cons, List.map_nil, List.pairwise_cons, List.mem_cons, List.not_mem_nil, or_false, forall_eq_or_imp, forall_eq] at this
      exact Nat.ne_of_lt this.1.2)
    (by
      have := G.2.2
      simp only [List.map_cons, List.map_nil, List.pairwise_cons, List.mem_cons, List.not_mem_nil, or_false, forall_eq_or_imp, forall_eq] at this
      exact Nat.ne_of_lt this.2.1))
theorem k_extendmap {D I T it l : Addr} {vals its : List Value} {n k : Nat} {ss : List Str} {keep : List (Addr × Obj)} (F : Fr h₀ L s.heap m) (N : News h₀ L s.heap news) (hI : (I, mapObj T (.type "str")) ∈ news) (hT : (T, tup1 it) ∈ news) (hit : (it, liObj l 0) ∈ news) (hD : (D, W.listOf vals.toArray n) ∈ news)
    (hl : (l, W.listOf its.toArray k) ∈ news) (hss : StrsAre its ss) (hsz : its.length < 1000) (hvz : vals.length < 1000) (hh : A.handled = none) (n1 : it ≠ I) (n2 : it ≠ T) (n3 : it ≠ l) (d1 : D ≠ I) (d2 : D ≠ T) (d3 : D ≠ it) (d4 : D ≠ l) (hkeep : ∀ p ∈ keep, p ∈ news ∧ p.1 ≠ it ∧ p.1 ≠ D)
    (h : ∀ h' tk c, Fr h₀ L h' m → News h₀ L h' ((D, W.listOf (vals ++ its).toArray c) :: keep) → Q .none { s with heap := h', toks := tk }) :
    wpAny (model prog w) A (call (.builtin "list.extend") [.ref D, .ref I]) Q E s := by
  have hM : MapAt I T it l its.toArray 0 s.heap := ⟨(N _ hI).1, (N _ hT).1, ⟨_, (N _ hit).1, rfl, rfl⟩, ⟨_, (N _ hl).1, rfl, _, rfl⟩⟩
  have hDt : s.TypeIs (.ref D) "list" := ⟨_, (N _ hD).1, rfl⟩
  refine wpAny_call (codeAny_call_builtin_code (plainId_quiet plain_list_extend _) (PySem.F.slot_list_extend.check _ _ _ _ _ _ _ _ hDt (PySem.F.args_list_extend_2 _ _) ?_))
  refine codeAny_builtin PySem.F.entry_list_extend ?_
  rw [Around.under_plainId plain_list_extend _]
  show wpAny _ _ (Builtin.List.listExtendWith (.ref D) (.ref I) .none) _ _ _
  have dz := (N _ hD).2
  have iz := (N _ hit).2
  refine extend_it (R := fun r s' => match r with | .ok (.ret v) => Q v s' | .ok _ => False | .error e => E e s') (T := "map") (by decide) (by decide) no_len_map no_hint_map (map_walks (A := A.in1) (ss := ss) (by simpa using hss) (by exact hh) ⟨n1, n2, n3⟩) (fun i s' h3 => h3.typeIs) D .none vals.toArray n (by rw [sizeLine_eq]; simp only [List.size_toArray]; omega) hM (by simp [d1, d2, d3, d4]) (by simp) (N _ hD).1 fun h' tk acc' c' hk hS' hacc => ?_
  obtain ⟨vs, e1, e2, e3⟩ := hacc
  have hvs : acc' = (vals ++ its).toArray := by
    apply Array.toList_inj.mp
    rw [e1, List.toList_toArray]
    show vals ++ vs = vals ++ its
    congr 1
    apply List.ext_getElem?
    intro j
    by_cases hj : j < vs.length
    · have h9 := e3 j vs[j] (by simp [hj])
      simp only [List.getElem?_toArray] at h9
      rw [h9]; simp [hj]
    · rw [List.getElem?_eq_none (Nat.le_of_not_lt hj), List.getElem?_eq_none (by rw [e2] at hj; simpa using hj)]
  subst hvs
  refine h h' tk c' ⟨F.ns.at' fun o e => hk _ o (by simp [Ne.symm dz.1, Ne.symm iz.1]) e, fun b o e => hk b o (fun q => ?_) (F.keep b o e), F.above⟩ fun p hp => ?_
  · simp only [List.mem_cons, List.not_mem_nil, or_false] at q
    rcases q with rfl | rfl
    · rw [dz.2] at e; cases e
    · rw [iz.2] at e; cases e
  · rcases List.mem_cons.mp hp with rfl | hp
    · exact ⟨hS', dz⟩
    · obtain ⟨k1, k2, k3⟩ := hkeep p hp
      exact ⟨hk _ _ (by simp [k2, k3]) (N p k1).1, (N p k1).2⟩
end
end SN2
section Rest
open PySem PySem.W PyProof.Rows PySem.Calls
set_option Elab.async false
set_option maxRecDepth 100000
set_option maxHeartbeats 0
set_option hygiene false in
local macro_rules | `(tactic| k_room) => `(tactic| ((try simp only [depth_mark, depth_under_make, depth_under_kw, depth_in1, depth_deeper, depth_caller, recursionLimit]); (try dsimp only [ktrTop]); first | ((try simp only [Nat.add_assoc, Nat.reduceAdd]); exact room_of hdp (by decide)) | omega))
set_option hygiene false in
local macro_rules | `(tactic| k_units) => `(tactic| ((have hcL9 := cLine_is); (try simp only [units_in1, units_deeper, Around.mark_units, units_caller]); (try dsimp only [ktrTop]); first | ((try simp only [Nat.add_assoc, Nat.reduceAdd, Nat.reduceMul]); exact room_of hun (by decide)) | omega))
local macro_rules | `(tactic| walk_at "call type:type") => `(tactic| ((with_reducible show wpAny _ _ (call _ [Value.bytes _ _]) _ _ _); refine call_type_of (Tx := "bytes") rfl (by decide +kernel) ?_))
set_option hygiene false in
local macro_rules | `(tactic| ktr_call $c $p) => `(tactic| (k_dflt (refine' ct_use0 $c (by k_asm) (by k_asm) (by k_asm) (by k_asm) (by k_asm) (by first | exact rfl | assumption) (by k_room) (by k_units) $p ?_); intro r9 tl9 h9 tk9 F9 N9 o9))
local macro_rules | `(tactic| k_mem) => `(tactic| first | exact List.Mem.head _ | ktr_member | (refine List.mem_cons_of_mem _ ?_; k_mem) | (refine List.mem_append_left _ ?_; k_mem) | (refine List.mem_append_right _ ?_; k_mem))
local macro_rules | `(tactic| k_all) => `(tactic| first | assumption | exact all_ne_lt (by assumption) | exact all_ne_lt1 (by assumption) | (refine' all_app (by k_all) (by k_all)) | (refine' all_ne_le (by assumption) (by omega)))
local macro_rules | `(tactic| k_all) => `(tactic| exact all_ne_off1 (by assumption))
set_option hygiene false in
local macro_rules | `(tactic| walk_at "eval Name") => `(tactic| first | (with_reducible refine nm_is hm0 ?_; k_dflt (refine nameX_L (by k_asm) hm0 ?_ rfl rfl)) | (with_reducible refine nm_is hm1 ?_; k_dflt (refine nameX_L (by k_asm) hm1 ?_ rfl rfl)) | ((with_reducible show wpAny _ _ (eval (Expr.Name (Str.ofString "row") _) _) _ _ _); k_dflt (refine' nameX_C (by k_asm) (by exact rfl) (by exact mR) (by exact hdR) ?_ (by rfl) (by rfl))) | ((with_reducible first | show wpAny _ _ (eval (Expr.Name (Str.ofString "signs") _) _) _ _ _ | show wpAny _ _ (eval (Expr.Name (Str.ofString "mycmp") _) _) _ _ _); k_dflt (refine' nameX_F (by k_asm) (by exact rfl) (by k_mem) (by assumption) ?_ (by rfl) (by rfl))))
set_option hygiene false in
local macro_rules | `(tactic| walk_at "call ref") => `(tactic| refine halted hstop ?_)
set_option hygiene false in
local macro_rules | `(tactic| walk_at "call ref") => `(tactic| first | (k_dflt (refine' ct_use C9 (by k_asm) (by k_asm) (by k_asm) (by k_asm) (by k_asm) (by exact rfl) (by k_room) (by k_units) (by first | exact rfl | exact P9 | exact ⟨rfl, P9⟩) ?_); intro r9 tl9 h9 tk9 F9 N9 O9 o9; (try (obtain ⟨t9, o9⟩ := o9; subst o9; try dsimp only [StrBack]))) | (ktr_call C8 P8; obtain ⟨t9, rfl⟩ := o9) | (ktr_call (C7 _) trivial; obtain ⟨arr9, t9, e9, hb9⟩ := o9; subst e9))
section SC1
open PySem PySem.W PyProof.Rows PySem.Calls
set_option Elab.async false
set_option maxRecDepth 100000
set_option maxHeartbeats 0

noncomputable def B64L : List Int := [65, 66, 67, 68, 69, 70, 71, 72, 73, 74, 75, 76, 77, 78, 79, 80, 81, 82, 83, 84, 85, 86, 87, 88, 89, 90, 97, 98, 99, 100, 101, 102, 103, 104, 105, 106, 107, 108, 109, 110, 111, 112, 113, 114, 115, 116, 117, 118, 119, 120, 121, 122, 48, 49, 50, 51, 52, 53, 54, 55, 56, 57, 43, 47]
noncomputable def mix (lc n : Int) : Int := Builtin.bitAnd (Builtin.bitOr (lc * 2 ^ Int.toNat 8) n) 65535
noncomputable def at6 (lc : Int) (k : Nat) : Int := Builtin.bitAnd (lc.fdiv (2 ^ k)) 63
noncomputable def b64c (i : Int) : Int := B64L.getD i.toNat 0
/-- one octet taken in -/
noncomputable def b6 (st : List Int × Int × Int) (n : Int) : List Int × Int × Int :=
  if st.2.1 = 0 then (st.1 ++ [b64c (at6 (mix st.2.2 n) 2)], 2, mix st.2.2 n) else
  if st.2.1 = 2 then (st.1 ++ [b64c (at6 (mix st.2.2 n) 4)], 4, mix st.2.2 n) else (st.1 ++ [b64c (at6 (mix st.2.2 n) 6), b64c (at6 (mix st.2.2 n) 0)], 0, mix st.2.2 n)
/-- what is written of octets -/
noncomputable def b64 (ns : List Int) : List Int :=
  let st := ns.foldl b6 ([], 0, 0)
  if st.2.1 = 2 then st.1 ++ [b64c (Builtin.bitAnd st.2.2 3 * 2 ^ Int.toNat 4), 61, 61] else if st.2.1 = 4 then st.1 ++ [b64c (Builtin.bitAnd st.2.2 15 * 2 ^ Int.toNat 2), 61] else st.1
theorem and_lo (x : Int) (k : Nat) : 0 ≤ Builtin.bitAnd x (2 ^ k - 1) ∧ Builtin.bitAnd x (2 ^ k - 1) < 2 ^ k := by
  rw [kbt_mask]; have h : (0 : Int) < 2 ^ k := kbt_pos k
  exact ⟨Int.emod_nonneg _ (by omega), Int.emod_lt_of_pos _ h⟩
theorem and63 (x : Int) : 0 ≤ Builtin.bitAnd x 63 ∧ Builtin.bitAnd x 63 < (B64L.length : Int) := and_lo x 6
theorem and3 (x : Int) : 0 ≤ Builtin.bitAnd x 3 * 2 ^ Int.toNat 4 ∧ Builtin.bitAnd x 3 * 2 ^ Int.toNat 4 < (B64L.length : Int) := by
  have h : 0 ≤ Builtin.bitAnd x 3 ∧ Builtin.bitAnd x 3 < 4 := and_lo x 2
  have e : (2 : Int) ^ Int.toNat 4 = 16 := rfl
  have l : (B64L.length : Int) = 64 := rfl
  rw [e, l]; omega
theorem and15 (x : Int) : 0 ≤ Builtin.bitAnd x 15 * 2 ^ Int.toNat 2 ∧ Builtin.bitAnd x 15 * 2 ^ Int.toNat 2 < (B64L.length : Int) := by
  have h : 0 ≤ Builtin.bitAnd x 15 ∧ Builtin.bitAnd x 15 < 16 := and_lo x 4
  have e : (2 : Int) ^ Int.toNat 2 = 4 := rfl
  have l : (B64L.length : Int) = 64 := rfl
  rw [e, l]; omega
theorem and65535 (x : Int) : 0 ≤ Builtin.bitAnd x 65535 ∧ Builtin.bitAnd x 65535 < 65536 := and_lo x 16
/-- what the loop of b2a_base64 keeps -/
structure BSt where
  its : List Value
  n : Nat
  ns : List Int
  lb : Int
  lc : Int
  t1 : Tok
  t2 : Tok
noncomputable def B6Post (h₀ : Heap) (L l : Addr) (news own : Led) (x : PySem.Str) (m₀ : PySem.Str → Option Value) (step : List Int × Int × Int → Int → List Int × Int × Int) (ns : List Int) (lb lc : Int) (pl : Nat) (n : Int) (s : Shared) (f : Flow) (s₂ : Shared) : Prop :=
  (f = .next ∨ f = .cont) ∧ ∃ (h' : Heap) (tk' : Nat) (m' : PySem.Str → Option Value) (news' : Led) (c' : BSt), s₂ = { s with heap := h', toks := tk' } ∧ Fr h₀ L h' m' ∧ News h₀ L h' news' ∧ (∀ p ∈ (l, listOf c'.its.toArray c'.n) :: (news ++ own), p ∈ news') ∧
        m' (Str.ofString "leftbits") = some (.int c'.lb c'.t1) ∧ m' (Str.ofString "leftchar") = some (.int c'.lc c'.t2) ∧ (∀ z, z ≠ x → z ≠ Str.ofString "leftbits" → z ≠ Str.ofString "leftchar" → m' z = m₀ z) ∧
        IntsAre c'.its c'.ns ∧ (c'.lb = 0 ∨ c'.lb = 2 ∨ c'.lb = 4) ∧ 0 ≤ c'.lc ∧ c'.lc < 65536 ∧ c'.ns.length ≤ 2 * pl + 2 ∧ (c'.ns, c'.lb, c'.lc) = step (ns, lb, lc) n
theorem B6Post.intro {h₀ : Heap} {L l : Addr} {news own : Led} {x : PySem.Str} {m₀ : PySem.Str → Option Value} {step : List Int × Int × Int → Int → List Int × Int × Int} {ns : List Int} {lb lc : Int} {pl : Nat} {n : Int} {s : Shared} {h' : Heap} {tk' : Nat} {m' : PySem.Str → Option Value} {its' : List Value} {n' : Nat} {arr : Array Value}
    (ns' : List Int) (lb' lc' : Int) (t1 t2 : Tok)
    (F : Fr h₀ L h' m') (N : News h₀ L h' ((l, listOf arr n') :: (news ++ own))) (ea : arr = its'.toArray) (e1 : m' (Str.ofString "leftbits") = some (.int lb' t1)) (e2 : m' (Str.ofString "leftchar") = some (.int lc' t2)) (e3 : ∀ z, z ≠ x → z ≠ Str.ofString "leftbits" → z ≠ Str.ofString "leftchar" → m' z = m₀ z)
    (hi : IntsAre its' ns') (hb : lb' = 0 ∨ lb' = 2 ∨ lb' = 4) (h0 : 0 ≤ lc') (h1 : lc' < 65536) (hl : ns'.length ≤ 2 * pl + 2) (hs : (ns', lb', lc') = step (ns, lb, lc) n) : B6Post h₀ L l news own x m₀ step ns lb lc pl n s .next { s with heap := h', toks := tk' } :=
  ⟨.inl rfl, h', tk', m', _, ⟨its', n', ns', lb', lc', t1, t2⟩, rfl, F, N, fun _ hp => ea ▸ hp, e1, e2, e3, hi, hb, h0, h1, hl, hs⟩
section
variable {prog : Program} {w : World} {A : Around} {E : Value → Shared → Prop} {s : Shared} {env : Env} {h₀ : Heap} {x : PySem.Str} {body : List Stmt} {Q : Flow → Shared → Prop}
theorem b2a_loop {b : Array UInt8} {tb : Tok} {m₀ : PySem.Str → Option Value} {l : Addr} {news : Led} {t1 t2 : Tok} {k : Nat} (step : List Int × Int × Int → Int → List Int × Int × Int)
    (hsz : (KBw.bInts b).length ≤ 40) (hh : A.handled = none) (F : Fr h₀ env.locals s.heap m₀) (N : News h₀ env.locals s.heap ((l, listOf #[] k) :: news)) (ha : ∀ p ∈ news, p.1 < l) (hm1 : m₀ (Str.ofString "leftbits") = some (.int 0 t1)) (hm2 : m₀ (Str.ofString "leftchar") = some (.int 0 t2))
    (turn : ∀ (c : BSt) (pre post : List Int) (n : Int) t (u : PySem.Str → Option Value) h tk own, KBw.bInts b = pre ++ n :: post → 0 ≤ n → n < 256 → (∀ p ∈ news ++ own, p.1 ≠ l) → IntsAre c.its c.ns → (c.lb = 0 ∨ c.lb = 2 ∨ c.lb = 4) → 0 ≤ c.lc → c.lc < 65536 → c.its.length ≤ 80 → c.ns.length ≤ 2 * pre.length →
      Fr h₀ env.locals h (fun y => if y = x then some (.int n t) else kstB (fun z => m₀ z) [(Str.ofString "leftbits", .int c.lb c.t1), (Str.ofString "leftchar", .int c.lc c.t2)] y) → News h₀ env.locals h ((l, listOf c.its.toArray c.n) :: (news ++ own)) →
      wpAny (model prog w) A (execs body env) (B6Post h₀ env.locals l news own x m₀ step c.ns c.lb c.lc pre.length n s) E { s with heap := h, toks := tk })
    (done : ∀ (c : BSt) (u : PySem.Str → Option Value) h tk, IntsAre c.its c.ns → (c.lb = 0 ∨ c.lb = 2 ∨ c.lb = 4) → 0 ≤ c.lc → c.lc < 65536 → c.ns.length ≤ 2 * (KBw.bInts b).length → (c.ns, c.lb, c.lc) = (KBw.bInts b).foldl step ([], 0, 0) →
      Fr h₀ env.locals h (fun y => if y = x then u y else kstB (fun z => m₀ z) [(Str.ofString "leftbits", .int c.lb c.t1), (Str.ofString "leftchar", .int c.lc c.t2)] y) → News h₀ env.locals h ((l, listOf c.its.toArray c.n) :: news) → Q .next { s with heap := h, toks := tk }) :
    wpAny (model prog w) A (pyIter (.bytes b tb)) (fun it s₂ => LoopAtV prog w A h₀ env x body Q E it s₂) E s := by
  refine KStb.kst_bytes (σ := BSt) (fun c => (l, listOf c.its.toArray c.n) :: news) (fun c => [(Str.ofString "leftbits", .int c.lb c.t1), (Str.ofString "leftchar", .int c.lc c.t2)])
    (fun c => IntsAre c.its c.ns ∧ (c.lb = 0 ∨ c.lb = 2 ∨ c.lb = 4) ∧ 0 ≤ c.lc ∧ c.lc < 65536) [] (fun pre c => c.ns.length ≤ 2 * pre.length ∧ (c.ns, c.lb, c.lc) = pre.foldl step ([], 0, 0))
    ⟨[], k, [], 0, 0, t1, t2⟩ rfl rfl hh F N ⟨.nil, .inl rfl, Int.le_refl 0, (by show (0 : Int) < 65536; decide)⟩ ?_ ⟨by simp, rfl⟩ ?_ ?_
  · intro p hp
    simp only [List.mem_cons, List.not_mem_nil, or_false] at hp
    rcases hp with rfl | rfl
    · exact hm1
    · exact hm2
  · rintro c pre post n t u h tk own e hlt h0 h1 hoff ⟨hi, hlb, hc0, hc1⟩ ⟨hlen, hst⟩ F₁ N₁
    refine wpAny_mono (turn c pre post n t u h tk own e h0 h1 (fun p hp => (List.mem_append.mp hp).elim (fun h => Nat.ne_of_lt (ha p h)) fun h => hoff p h l (by simp)) hi hlb hc0 hc1 (by have e9 := congrArg List.length e; rw [List.length_append, List.length_cons] at e9; have := hi.length; omega) hlen (by simpa using F₁) (by simpa using N₁)) (fun f s₂ hf => ?_) fun _ _ e => e
    obtain ⟨hfl, h', tk', m', news', c', rfl, F', N', hsub, g1, g2, g3, g4, g5, g6, g7, g8, g9⟩ := hf
    have fin : InvEndN h₀ env.locals (KstS (fun c : BSt => (l, listOf c.its.toArray c.n) :: news) (fun c => [(Str.ofString "leftbits", .int c.lb c.t1), (Str.ofString "leftchar", .int c.lc c.t2)])
        (fun c => IntsAre c.its c.ns ∧ (c.lb = 0 ∨ c.lb = 2 ∨ c.lb = 4) ∧ 0 ≤ c.lc ∧ c.lc < 65536) x [] m₀ (fun pre c => c.ns.length ≤ 2 * pre.length ∧ (c.ns, c.lb, c.lc) = pre.foldl step ([], 0, 0)) (pre ++ [n])) own (((l, listOf (([] : List Value)).toArray k) :: news).map (·.1)) { s with heap := h, toks := tk } { s with heap := h', toks := tk' } := by
      refine kst_end (s₁ := { s with heap := h, toks := tk }) c' F' N' ?_ ?_ rfl ⟨g4, g5, g6, g7⟩ ?_ ?_ ⟨?_, ?_⟩
      · intro p hp
        refine hsub p ?_
        rcases List.mem_cons.mp hp with rfl | hp
        · exact List.mem_cons_self
        · exact List.mem_cons_of_mem _ (List.mem_append.mpr (.inl hp))
      · intro p hp
        exact hsub p (List.mem_cons_of_mem _ (List.mem_append.mpr (.inr hp)))
      · intro p hp
        simp only [List.mem_cons, List.not_mem_nil, or_false] at hp
        rcases hp with rfl | rfl
        · exact g1
        · exact g2
      · intro z hz h2 _
        exact g3 z hz (h2 (Str.ofString "leftbits", .int c'.lb c'.t1) (by simp)) (h2 (Str.ofString "leftchar", .int c'.lc c'.t2) (by simp))
      · simp only [List.length_append, List.length_cons, List.length_nil]; omega
      · rw [List.foldl_append, ← hst]; exact g9
    rcases hfl with rfl | rfl
    · exact fin
    · exact fin
  · rintro c u h tk hl ⟨hi, hlb, hc0, hc1⟩ ⟨hlen, hst⟩ F₁ N₁
    exact done c u h tk hi hlb hc0 hc1 hlen hst (by simpa using F₁) N₁
end

theorem b6_in (ks : List Int) : ∀ st : List Int × Int × Int, KBa.In st.1 → KBa.In (ks.foldl b6 st).1 := by
  induction ks with
  | nil => exact fun st h => h
  | cons k ks ih =>
    intro st h
    have hc : ∀ i, 0 ≤ b64c i ∧ b64c i < 256 := by
      intro i
      unfold b64c
      by_cases hi : i.toNat < 64
      · have : ∀ j, j < 64 → 0 ≤ B64L.getD j 0 ∧ B64L.getD j 0 < 256 := by decide
        exact this _ hi
      · rw [List.getD_eq_getElem?_getD, List.getElem?_eq_none (Nat.le_of_not_lt hi)]; decide
    refine ih _ ?_
    unfold b6
    split
    · intro n hn
      rcases List.mem_append.mp hn with hn | hn
      · exact h n hn
      · rw [List.mem_singleton.mp hn]; exact hc _
    · split
      · intro n hn
        rcases List.mem_append.mp hn with hn | hn
        · exact h n hn
        · rw [List.mem_singleton.mp hn]; exact hc _
      · intro n hn
        rcases List.mem_append.mp hn with hn | hn
        · exact h n hn
        · simp only [List.mem_cons, List.not_mem_nil, or_false] at hn
          rcases hn with rfl | rfl <;> exact hc _
section
variable {prog : Program} {w : World} {A : Around} {E : Value → Shared → Prop} {s : Shared} {h₀ : Heap} {L : Addr} {m : Str → Option Value}
theorem mk_bytes {Q : Value → Shared → Prop} {D : Addr} {arr : Array Value} {n : Nat} {rest : Led} (vs : List Value) (ns : List Int) (F : Fr h₀ L s.heap m) (N : News h₀ L s.heap ((D, listOf arr n) :: rest)) (ea : arr = vs.toArray) (hh : A.handled = none) (hi : IntsAre vs ns) (hr : KBa.In ns) (hn : ns.length ≤ 1000)
    (h : ∀ h' t' k, Fr h₀ L h' m → News h₀ L h' ((D, listOf arr n) :: rest) → Q (.bytes (byteArr ns) t') { s with heap := h', toks := k }) : wpAny (model prog w) A (call (.type "bytes") [.ref D]) Q E s := by
  subst ea
  exact KBa.make_K F N hh ⟨_, (N _ (.head _)).1, rfl, _, rfl⟩ hi hr (by omega) fun h' t' k F' N' _ => h h' t' k F' N'
end
theorem in_app {ns ms : List Int} (h : KBa.In ns) (h2 : KBa.In ms) : KBa.In (ns ++ ms) := fun n hn => (List.mem_append.mp hn).elim (h n) (h2 n)
theorem b64c_in (i : Int) : 0 ≤ b64c i ∧ b64c i < 256 := by
  unfold b64c
  by_cases hi : i.toNat < 64
  · have : ∀ j, j < 64 → 0 ≤ B64L.getD j 0 ∧ B64L.getD j 0 < 256 := by decide
    exact this _ hi
  · rw [List.getD_eq_getElem?_getD, List.getElem?_eq_none (Nat.le_of_not_lt hi)]; decide
theorem b64_2 {ks ns : List Int} {lc : Int} (h : (ns, (2 : Int), lc) = ks.foldl b6 ([], 0, 0)) : b64 ks = ns ++ [b64c (Builtin.bitAnd lc 3 * 2 ^ Int.toNat 4), 61, 61] := by
  unfold b64; rw [← h]; rfl
theorem b64_4 {ks ns : List Int} {lc : Int} (h : (ns, (4 : Int), lc) = ks.foldl b6 ([], 0, 0)) : b64 ks = ns ++ [b64c (Builtin.bitAnd lc 15 * 2 ^ Int.toNat 2), 61] := by
  unfold b64; rw [← h]; rfl
theorem b64_0 {ks ns : List Int} {lc : Int} (h : (ns, (0 : Int), lc) = ks.foldl b6 ([], 0, 0)) : b64 ks = ns := by
  unfold b64; rw [← h]; rfl
end SC1
section SC2
open PySem PySem.W PyProof.Rows PySem.Calls
set_option Elab.async false
set_option maxRecDepth 100000
set_option maxHeartbeats 0
local macro_rules | `(tactic| k_all) => `(tactic| assumption)
local macro_rules | `(tactic| size_fits) => `(tactic| ((simp only [List.size_toArray, Array.size_push, PySem.sizeLine_eq, List.length_append, List.length_cons, List.length_nil]); omega))
local macro_rules | `(tactic| walk_at "subscriptTail") => `(tactic| ((with_reducible show wpAny _ _ (subscriptTail _ _ (Value.bytes _ _) (Value.int _ _)) _ _ _); (refine KBw.item_K (ks := B64L) (by rfl) (by decide) (by first | exact (and63 _).1 | exact (and3 _).1 | exact (and15 _).1) (by first | exact (and63 _).2 | exact (and3 _).2 | exact (and15 _).2) ?_); intro _ _ _ _))
theorem small3 (x : Int) : (Builtin.bitAnd x 3).natAbs < 2 ^ 64 := by have h : 0 ≤ Builtin.bitAnd x 3 ∧ Builtin.bitAnd x 3 < 4 := and_lo x 2; omega
theorem small15 (x : Int) : (Builtin.bitAnd x 15).natAbs < 2 ^ 64 := by have h : 0 ≤ Builtin.bitAnd x 15 ∧ Builtin.bitAnd x 15 < 16 := and_lo x 4; omega
local macro_rules | `(tactic| walk_at "binaryOp LShift int int") => `(tactic| (refine lshift_int_small (by decide) (by decide) (by first | exact small3 _ | exact small15 _ | omega) ?_))
local macro_rules | `(tactic| kba_isList) => `(tactic| fail "by hand")
theorem t_b2a (w : World) (mean mg mb) (arr : Array UInt8) (tk : Tok) (hsz : (KBw.bInts arr).length ≤ 40) : Ct 50 w mean mg mb (.ref 92) [.bytes arr tk] [(Str.ofString "newline", .bool false)] (fun _ => True) (fun _ r => ∃ arr' t', r = .bytes arr' t' ∧ KBw.bInts arr' = b64 (KBw.bInts arr)) := by
  w_top off
  unfold Ct PG; k_fill
  intro dp un gd cn cs a ccd cl outer A₀ base h₀ L m news s Q E B F X N T hk hdp hun hpre hret
  refine wpAny_call ?_
  k_dflt cell_enter
  k_steps
  k_dflt (refine b2a_loop b6 hsz (by rfl) (by k_asm) (by k_asm) (by k_asm) (by with_unfolding_all rfl) (by with_unfolding_all rfl) ?turn ?done)
  case done =>
    intro c u h tk hi hlb hc0 hc1 hlen hst F₁ N₁
    obtain ⟨its, nn, ns, lb, lc, t1, t2⟩ := c
    dsimp only at hi hlb hc0 hc1 hlen hst F₁ N₁
    have hlen2 : its.length ≤ 80 := by have := hi.length; omega
    have hin : KBa.In ns := by have h9 := b6_in (KBw.bInts arr) ([], 0, 0) (fun _ h => nomatch h); rw [← hst] at h9; exact h9
    have hl9 : ns.length ≤ 80 := by have := hi.length; omega
    rcases hlb with rfl | rfl | rfl
    · k_steps
      k_dflt (exact hret _ [] _ _ (by k_asm) (News.sub0 (by k_asm) (fun p hp => by repeat (first | exact hp | apply List.mem_cons_of_mem))) Over.nil ⟨_, _, rfl, by rw [b64_0 hst]; exact KBa.ints_make hin⟩)
    · k_steps
      have hin2 : KBa.In (ns ++ [b64c (Builtin.bitAnd lc 3 * 2 ^ Int.toNat 4), 61, 61]) := in_app hin (fun n hn => by simp only [List.mem_cons, List.not_mem_nil, or_false] at hn; rcases hn with rfl | rfl | rfl <;> first | exact b64c_in _ | decide)
      k_dflt (refine mk_bytes (its ++ [_, _, _]) (ns ++ [_, _, _]) (by k_asm) (by k_asm) (by simp only [List.push_toArray, List.append_assoc, List.cons_append, List.nil_append]; rfl) (by rfl) (IntsAre.append hi (.cons _ _ (.cons _ _ (.cons _ _ .nil)))) hin2 (by simp only [List.length_append, List.length_cons, List.length_nil]; omega) ?_)
      intro h2 t2' k2 F2 N2
      k_steps
      k_dflt (exact hret _ [] _ _ (by k_asm) (News.sub0 (by k_asm) (fun p hp => by repeat (first | exact hp | apply List.mem_cons_of_mem))) Over.nil ⟨_, _, rfl, by rw [b64_2 hst]; exact KBa.ints_make hin2⟩)
    · k_steps
      have hin2 : KBa.In (ns ++ [b64c (Builtin.bitAnd lc 15 * 2 ^ Int.toNat 2), 61]) := in_app hin (fun n hn => by simp only [List.mem_cons, List.not_mem_nil, or_false] at hn; rcases hn with rfl | rfl <;> first | exact b64c_in _ | decide)
      k_dflt (refine mk_bytes (its ++ [_, _]) (ns ++ [_, _]) (by k_asm) (by k_asm) (by simp only [List.push_toArray, List.append_assoc, List.cons_append, List.nil_append]; rfl) (by rfl) (IntsAre.append hi (.cons _ _ (.cons _ _ .nil))) hin2 (by simp only [List.length_append, List.length_cons, List.length_nil]; omega) ?_)
      intro h2 t2' k2 F2 N2
      k_steps
      k_dflt (exact hret _ [] _ _ (by k_asm) (News.sub0 (by k_asm) (fun p hp => by repeat (first | exact hp | apply List.mem_cons_of_mem))) Over.nil ⟨_, _, rfl, by rw [b64_4 hst]; exact KBa.ints_make hin2⟩)
  case turn =>
    intro c pre post n t u h tk own e h0 h1 hoff hi hlb hc0 hc1 hlen2 hlen F₁ N₁
    obtain ⟨its, nn, ns, lb, lc, t1, t2⟩ := c
    dsimp only at hi hlb hc0 hc1 hlen2 hlen F₁ N₁
    have hx0 := (and65535 (Builtin.bitOr (lc * 2 ^ Int.toNat 8) n)).1
    have hx1 := (and65535 (Builtin.bitOr (lc * 2 ^ Int.toNat 8) n)).2
    rcases hlb with rfl | rfl | rfl
    · k_steps
      k_dflt (refine B6Post.intro (its' := its ++ [_]) (ns ++ [_]) _ _ _ _ (by k_asm) (by k_asm) (by simp only [List.push_toArray]; rfl) (by with_unfolding_all rfl) (by with_unfolding_all rfl) (fun z z1 z2 z3 => by simp [z1, z2, z3, kstB]) (IntsAre.append hi (.cons _ _ .nil)) (by decide) hx0 hx1 (by simp only [List.length_append, List.length_cons, List.length_nil]; omega) (by rfl))
    · k_steps
      k_dflt (refine B6Post.intro (its' := its ++ [_]) (ns ++ [_]) _ _ _ _ (by k_asm) (by k_asm) (by simp only [List.push_toArray]; rfl) (by with_unfolding_all rfl) (by with_unfolding_all rfl) (fun z z1 z2 z3 => by simp [z1, z2, z3, kstB]) (IntsAre.append hi (.cons _ _ .nil)) (by decide) hx0 hx1 (by simp only [List.length_append, List.length_cons, List.length_nil]; omega) (by rfl))
    · k_steps
      k_dflt (refine B6Post.intro (its' := its ++ [_, _]) (ns ++ [_, _]) _ _ _ _ (by k_asm) (by k_asm) (by simp only [List.push_toArray, List.append_assoc, List.cons_append, List.nil_append]; rfl) (by with_unfolding_all rfl) (by with_unfolding_all rfl) (fun z z1 z2 z3 => by simp [z1, z2, z3, kstB]) (IntsAre.append hi (.cons _ _ (.cons _ _ .nil))) (by decide) hx0 hx1 (by simp only [List.length_append, List.length_cons, List.length_nil]; omega) (by rfl))
end SC2
section SC3
open PySem PySem.W PyProof.Rows PySem.Calls
set_option Elab.async false
set_option maxRecDepth 100000
set_option maxHeartbeats 0
local macro_rules | `(tactic| ktr_member) => `(tactic| assumption)
theorem t_b64 (w : World) (mean mg mb) (arr : Array UInt8) (tk : Tok) (hsz : (KBw.bInts arr).length ≤ 40) : Ct 60 w mean mg mb (.ref 100) [.bytes arr tk] [] (fun _ => True) (fun _ r => ∃ arr' t', r = .bytes arr' t' ∧ KBw.bInts arr' = b64 (KBw.bInts arr)) := by
  w_top off
  unfold Ct PG; k_fill
  intro dp un gd cn cs a ccd cl outer A₀ base h₀ L m news s Q E B F X N T hk hdp hun hpre hret
  refine wpAny_call ?_
  have C7 := fun t => t_b2a w mean mg mb arr t hsz
  k_dflt ((refine' code_def (by k_asm) (by k_asm) (by k_asm) (by k_asm) (by k_asm) (by exact rfl) (by exact rfl) (by assumption) (by k_is) (by k_is) (by k_room) (by first | exact BindsTo.of_eq rfl | exact binds_K (by k_in) rfl (by k_is) rfl rfl rfl | fail "k_enter: no rule for these arguments") (by exact locs rfl) ?_ (by exact rfl) (by exact rfl) (by exact rfl) (by decide); k_whole; intro g' L' h' FG' F' N' B' X' T'; (try dsimp only); (try k_fold)))
  k_steps
  k_dflt (exact hret _ [] _ _ (by k_asm) (News.sub0 (by k_asm) (fun p hp => by repeat (first | exact hp | apply List.mem_cons_of_mem))) Over.nil ⟨_, _, rfl, hb9⟩)
end SC3
section SP1
open PySem PySem.W PyProof.Rows PySem.Calls
set_option Elab.async false
set_option maxRecDepth 100000
set_option maxHeartbeats 0
theorem contains61 (c : UInt8) : (#[(61 : UInt8)].contains c) = ((c.toNat : Int) == 61) := by
  have h : ∀ n : Fin 256, (#[(61 : UInt8)].contains (UInt8.ofNat n.val)) = (((UInt8.ofNat n.val).toNat : Int) == 61) := by decide +kernel
  have := h ⟨c.toNat, c.toNat_lt⟩
  simpa using this
theorem kept_map (arr : Array UInt8) : (kept arr).map (fun c => (c.toNat : Int)) = ((KBw.bInts arr).reverse.dropWhile (· == 61)).reverse := by
  unfold kept KBw.bInts
  have e : (arr.toList.map fun c => (c.toNat : Int)).reverse = arr.toList.reverse.map fun c => (c.toNat : Int) := List.map_reverse.symm
  have e2 : ((fun x => x == 61) ∘ fun (c : UInt8) => (c.toNat : Int)) = #[(61 : UInt8)].contains := by
    funext c
    exact (contains61 c).symm
  rw [e, List.dropWhile_map, e2, List.map_reverse]
/-- all rows of octets that a number can name -/
noncomputable def octs : List Int := [0, 3, 255, 65]
noncomputable def rowsAll : List (List Int) := octs.map (fun a => [a]) ++ octs.flatMap (fun a => octs.map fun b => [a, b]) ++ octs.flatMap (fun a => octs.flatMap fun b => octs.map fun c => [a, b, c]) ++ octs.flatMap (fun a => octs.flatMap fun b => octs.flatMap fun c => octs.map fun d => [a, b, c, d])
noncomputable def bare (ns : List Int) : List Int := ((b64 ns).reverse.dropWhile (· == 61)).reverse
noncomputable def wr64 (ns : List Int) : Str := ⟨((bare ns).map (·.toNat)).toArray⟩
noncomputable def lineOf (ns : List Int) : Str := Str.ofString "Allow: /" ++ wr64 ns
noncomputable def rowCheck (r : List Int) : Bool := r.all (fun n => decide (0 ≤ n) && decide (n < 256)) && decide (1 ≤ r.length) && decide (r.length ≤ 4) && decide ((b64 r).length ≤ 8) && (bare r).all (fun n => decide (0 ≤ n) && decide (n < 128)) && decide (1 ≤ (bare r).length) && decide ((bare r).length ≤ 6)
theorem rowsAll_check : rowsAll.all rowCheck = true := by decide +kernel
theorem row_check {r : List Int} (h : r ∈ rowsAll) : rowCheck r = true := List.all_eq_true.mp rowsAll_check r h
structure RowOk (r : List Int) : Prop where
  isIn : KBa.In r
  lo : 1 ≤ r.length
  hi : r.length ≤ 4
  b64len : (b64 r).length ≤ 8
  low : ∀ n ∈ bare r, 0 ≤ n ∧ n < 128
  blo : 1 ≤ (bare r).length
  bhi : (bare r).length ≤ 6
theorem row_ok {r : List Int} (h : r ∈ rowsAll) : RowOk r := by
  have := row_check h
  unfold rowCheck at this
  simp only [Bool.and_eq_true, List.all_eq_true, decide_eq_true_eq] at this
  obtain ⟨⟨⟨⟨⟨⟨a, b⟩, c⟩, d⟩, e⟩, f⟩, g⟩ := this
  exact ⟨a, b, c, d, e, f, g⟩
theorem kept_eq {arr : Array UInt8} {r : List Int} (hb : KBw.bInts arr = b64 r) : (kept arr).map (fun c => (c.toNat : Int)) = bare r := by rw [kept_map, hb]; rfl
theorem kept_len {arr : Array UInt8} {r : List Int} (hb : KBw.bInts arr = b64 r) (h : RowOk r) : 1 ≤ (kept arr).length ∧ (kept arr).length ≤ 6 := by
  have := congrArg List.length (kept_eq hb)
  rw [List.length_map] at this
  rw [this]; exact ⟨h.blo, h.bhi⟩
theorem kept_low {arr : Array UInt8} {r : List Int} (hb : KBw.bInts arr = b64 r) (h : RowOk r) : ∀ x ∈ kept arr, x.toNat < 128 := by
  intro x hx
  have h1 : (x.toNat : Int) ∈ bare r := by rw [← kept_eq hb]; exact List.mem_map_of_mem hx
  have := (h.low _ h1).2
  omega
theorem kept_txt {arr : Array UInt8} {r : List Int} (hb : KBw.bInts arr = b64 r) : (⟨((kept arr).map (·.toNat)).toArray⟩ : Str) = wr64 r := by
  unfold wr64
  rw [← kept_eq hb, List.map_map]
  congr 2
theorem arr_size {arr : Array UInt8} {r : List Int} (hb : KBw.bInts arr = b64 r) (h : RowOk r) : arr.size ≤ 1000 := by
  have := KBw.ints_length arr
  rw [hb] at this
  have := h.b64len
  omega
theorem wr64_len {r : List Int} (h : RowOk r) : (wr64 r).length ≤ 6 := by
  show ((bare r).map (·.toNat)).toArray.size ≤ 6
  rw [List.size_toArray, List.length_map]; exact h.bhi
theorem line_fits {r : List Int} (h : RowOk r) : (Str.ofString "Allow: /").length + (wr64 r).length ≤ sizeLine := by
  have := wr64_len h
  have e : (Str.ofString "Allow: /").length = 8 := by decide
  rw [sizeLine_eq, e]; omega
end SP1
section SC4
local macro_rules | `(tactic| walk_at "none") => `(tactic| skip)
open PySem PySem.W PyProof.Rows PySem.Calls
set_option Elab.async false
set_option maxRecDepth 100000
set_option maxHeartbeats 0
theorem ReadsMem {h₀ h : Heap} {L D : Addr} {news : Led} {its : List Value} {k : Nat} (N : News h₀ L h news) (hm : (D, listOf its.toArray k) ∈ news) : h.IsList D its.toArray := ⟨_, (N _ hm).1, rfl, _, rfl⟩
noncomputable abbrev entDict (w : World) (t1 t2 t3 t4 : Tok) (l1 l2 : Addr) (dv : Value) : Obj :=
  dictOf [{ hash := PyData.keyHash w.params (Str.ofString "useragents"), key := .str (Str.ofString "useragents") t1, val := .ref l1 }, { hash := PyData.keyHash w.params (Str.ofString "rulelines"), key := .str (Str.ofString "rulelines") t2, val := .ref l2 },
    { hash := PyData.keyHash w.params (Str.ofString "delay"), key := .str (Str.ofString "delay") t3, val := dv }, { hash := PyData.keyHash w.params (Str.ofString "req_rate"), key := .str (Str.ofString "req_rate") t4, val := .none }] 4
/-- an Entry in the ledger -/
inductive EntAt (w : World) (news : Led) (v : Value) (its : List Value) (dv : Value) (ls : List Value) : Prop
  | mk (x d l1 l2 : Addr) (k1 k2 : Nat) (t1 t2 t3 t4 : Tok) (e : v = .ref x) (hx : (x, instObj 59 d) ∈ news) (hd : (d, entDict w t1 t2 t3 t4 l1 l2 dv) ∈ news) (h1 : (l1, listOf its.toArray k1) ∈ news) (h2 : (l2, listOf ls.toArray k2) ∈ news) : EntAt w news v its dv ls
set_option hygiene false in
local macro_rules | `(tactic| walk_at "call type:bytes") => `(tactic| (k_dflt (refine' KBa.make_K (by k_asm) (by k_asm) (by rfl) (ReadsMem (by k_asm) (by (repeat (first | exact hR | apply List.mem_cons_of_mem)))) hiR hin (by omega) ?_); intro h9' t9' k9' F9' N9' _))
set_option hygiene false in
local macro_rules | `(tactic| walk_at "binaryOp Add str str") => `(tactic| (k_dflt (refine add_str ?_ (line_fits hrw)); intro t6 k6))
theorem t_rec (w : World) (mean mg mb) (ax az : Addr) (dv : Value) (itsA itsR : List Value) (kA kR : Nat) (row : List Int) (hA1 : 1 ≤ itsA.length) (hA2 : itsA.length ≤ 3) (hiR : IntsAre itsR row) (hrw : RowOk row) (base0 : Led) :
    Ct 80 w mean mg mb (.ref 128) [.ref ax, dv, .ref az] [] (fun news => news = base0 ∧ (ax, listOf itsA.toArray kA) ∈ news ∧ (az, listOf itsR.toArray kR) ∈ news) (fun news r => ∃ tl, news = base0 ++ tl ∧ ∃ t, EntAt w tl r itsA dv [.str (lineOf row) t]) := by
  w_top off
  unfold Ct PG; k_fill
  intro dp un gd cn cs a ccd cl outer A₀ base h₀ L m news s Q E B F X N T hk hdp hun hpre hret
  obtain ⟨rfl, hA, hR⟩ := hpre
  have hin := hrw.isIn
  have hrl := hrw.hi
  have hsz : (KBw.bInts (byteArr row)).length ≤ 40 := by rw [KBa.ints_make hin]; omega
  have C7 := fun t => t_b64 w mean mg mb (byteArr row) t hsz
  simp only [KBa.ints_make hin] at C7
  refine wpAny_call ?_
  k_dflt ((refine' code_def (by k_asm) (by k_asm) (by k_asm) (by k_asm) (by k_asm) (by exact rfl) (by exact rfl) (by assumption) (by k_is) (by k_is) (by k_room) (by first | exact BindsTo.of_eq rfl | exact binds_K (by k_in) rfl (by k_is) rfl rfl rfl | fail "k_enter: no rule for these arguments") (by exact locs rfl) ?_ (by exact rfl) (by exact rfl) (by exact rfl) (by decide); k_whole; intro g' L' h' FG' F' N' B' X' T'; (try dsimp only); (try k_fold)))
  k_steps
  (k_dflt (refine' kl_extend (its := #[]) (l := itsA) (by k_asm) (by k_asm) (by (repeat (first | exact hA | apply List.mem_cons_of_mem))) (by simp) (by (simp only [List.toList_toArray]; omega)) (by k_upd) (by simp) (by decide) (by (rw [sizeLine_eq]; simp only [List.size_toArray]; show 0 + _ ≤ _; omega)) ?_); kl_rest)
  k_steps
  (with_reducible refine method_rstrip ?_)
  k_steps
  (k_dflt (refine rstrip_bytes (by exact arr_size hb9 hrw) ?_); intro t8 k8)
  k_steps
  k_dflt (refine decode_bytes ?ga ?gb ?gc ?_)
  case ga => exact kept_low hb9 hrw
  case gb => exact (kept_len hb9 hrw).1
  case gc => exact (kept_len hb9 hrw).2
  intro t7 k7
  rw [kept_txt hb9]
  k_steps
  k_dflt (refine hret _ [_, _, _, _] _ _ (by k_asm) (News.swap (by k_asm)) ?ov ?out)
  case ov =>
    k_dflt (refine Over.of (by assumption) ?_)
    repeat (first | exact True.intro | (refine And.intro ?_ ?_; · omega))
  case out =>
    k_dflt (exact ⟨_, rfl, _, _, _, _, _, _, _, _, _, _, _, rfl, List.Mem.tail _ (List.Mem.tail _ (List.Mem.head _)), List.Mem.tail _ (List.Mem.tail _ (List.Mem.tail _ (List.Mem.head _))), List.Mem.tail _ (List.Mem.head _), List.Mem.head _⟩)
end SC4
section SC8
open PySem PySem.W PyProof.Rows PySem.Calls
set_option Elab.async false
set_option maxRecDepth 100000
set_option maxHeartbeats 0
set_option hygiene false in
local macro_rules | `(tactic| walk_at "exec For Name Name cons nil") => `(tactic| (k_dflt (refine' For_zip (yn := Str.ofString "value") step (by k_asm) (by decide) (by exact rfl) (by exact rfl) (by exact rfl) ?_)))
theorem t_reduce3 (w : World) (mean mg mb) (kf : Nat) (f z TI TO i1 i2 : Addr) (x y : Str) (t u : Tok) (D : ZApart z TI TO i1 i2) (hn : 1 ≤ min x.cps.size y.cps.size) (step : Int → Nat → Nat → Int) (PreF : Led → Prop) (monoP : ∀ a b : Led, (∀ p ∈ a, p ∈ b) → PreF a → PreF b)
    (hfo : ∀ news, PreF news → ∃ oc od fd sl, (f, (⟨oc, od, .func fd, sl⟩ : Obj)) ∈ news)
    (hf : ∀ (i : Nat) (v : Int) (tv : Tok) (T : Addr) (t1 t2 : Tok) (c1 c2 : Nat), x.cps[i]? = some c1 → y.cps[i]? = some c2 → Ct kf w mean mg mb (.ref f) [.int v tv, .ref T] [] (fun news => PreF news ∧ (T, pairObj (.str (sgn c1) t1) (.str (sgn c2) t2)) ∈ news) (fun _ r => ∃ t', r = .int (step v c1 c2) t'))
    (dp un : Nat) (gd : Option (List Code)) (cn : Str) (cs : Scope) (a : Addr) (ccd : Value) (cl : List (Str × Addr)) (outer : List Env) (A₀ : Around) (base h₀ : Heap) (L : Addr) (m : Str → Option Value) (rest : Led) (o1 o2 : Obj) (t0 : Tok) (s : Shared) (Q E : Value → Shared → Prop)
    (B : Below A₀ base outer h₀) (F : Fr h₀ L s.heap m) (X : (hK w.params).In h₀) (N : News h₀ L s.heap (Z5 z TI TO i1 i2 .none false (pairObj .none .none) o1 o2 ++ rest)) (ho1 : SiIs o1 x t 0) (ho2 : SiIs o2 y u 0) (hZ : Zne z TI TO i1 i2 rest) (T : Top VW LS mean mg mb h₀) (hk : cs.kind = .function) (hdp : dp + (kf + 20) < 1000) (hun : un + 8 * (kf + 20) < 9900) (hP : PreF rest)
    (hret : ∀ r tl h' tk', Fr h₀ L h' m → News h₀ L h' (rest ++ tl) → Over rest tl → (∃ t', r = .int (zfold step x y (min x.cps.size y.cps.size)) t') → Q r { s with heap := h', toks := tk' }) :
    wpAny (model PG w) (ktrTop dp un gd cn cs L a ccd cl outer) (call (.ref 116) [.ref f, .ref z, .int 0 t0]) Q E s := by
  w_top off
  revert X T Q E
  unfold PG; k_fill
  intro X T Q E hret
  refine wpAny_call ?_
  simp only [List.cons_append, List.nil_append] at N
  k_dflt ((refine' code_def (by k_asm) (by k_asm) (by k_asm) (by k_asm) (by k_asm) (by exact rfl) (by exact rfl) (by assumption) (by k_is) (by k_is) (by k_room) (by first | exact BindsTo.of_eq rfl | exact binds_K (by k_in) rfl (by k_is) rfl rfl rfl | fail "k_enter: no rule for these arguments") (by exact locs rfl) ?_ (by exact rfl) (by exact rfl) (by exact rfl) (by decide); k_whole; intro g' L' h' FG' F' N' B' X' T'; (try dsimp only); (try k_fold)))
  k_steps
  (k_dflt (refine' k_iterz (by k_asm) (by k_mem) ?_))
  k_steps
  ((with_reducible show wpAny _ _ (compareOp CmpOp.Is (Value.int _ _) (Value.ref _)) _ _ _); k_dflt (refine wpAny_is_other (by rfl) (by intro x; cases x) ?_))
  k_steps
  all_goals first | exact (none : Option Value) | skip
  k_dflt (refine' ⟨z, TI, TO, i1, i2, x, y, t, u, _, rest, _, o1, o2, rfl, D, hn, ?hF, ?hN, ho1, ho2, hZ, ?hv, ?turn, ?done⟩)
  case hF => k_dflt k_asm
  case hN => k_dflt k_asm
  case hv => with_unfolding_all rfl
  case turn =>
    intro i v tv t1 t2 c1 c2 T9 tl h tk f0 f1 oTO o1' o2' hx hy hO hZ' hTm F₁ N₁
    have hP' : PreF (Z5 z TI TO i1 i2 f0 f1 oTO o1' o2' ++ (rest ++ tl)) := monoP _ _ (fun p hp => List.mem_append.mpr (.inr (List.mem_append.mpr (.inl hp)))) hP
    obtain ⟨oc, od, fd, sl, hfm⟩ := hfo _ hP'
    k_steps
    k_dflt (refine' callWith_F (q := f) ?k1 ?_)
    case k1 => k_dflt (exact FnAt.of (by k_asm) hfm)
    k_steps
    k_dflt (refine' ct_use (hf i v tv T9 t1 t2 c1 c2 hx hy) ?k1 ?k2 ?k3 ?k4 ?k5 ?k6 ?k7 ?k8 ?pre ?_)
    case k1 => k_dflt k_asm
    case k2 => k_dflt k_asm
    case k3 => k_dflt k_asm
    case k4 => k_dflt (exact N₁)
    case k5 => k_dflt k_asm
    case k6 => k_dflt rfl
    case k7 => k_dflt k_room
    case k8 => k_dflt k_units
    case pre => k_dflt (exact ⟨hP', List.mem_append.mpr (.inr (List.mem_append.mpr (.inr hTm)))⟩)
    intro r9 tl9 h9 tk9 F9 N9 O9 o9
    obtain ⟨t9, rfl⟩ := o9
    k_steps
    k_dflt (exact ZipPost.intro (tl := tl9) (by k_asm) (by k_asm) O9 (by with_unfolding_all rfl) (fun z z1 z2 => by simp [z1, z2]))
  case done =>
    intro tv tl uu h tk hO F₁ N₁
    k_steps
    k_dflt (exact hret _ tl _ _ (by k_asm) (by k_asm) hO ⟨_, rfl⟩)
end SC8
section SE1
local macro_rules | `(tactic| walk_at "none") => `(tactic| skip)
local macro_rules | `(tactic| walk_at "none") => `(tactic| skip)
open PySem PySem.W PyProof.Rows PySem.Calls
set_option Elab.async false
set_option maxRecDepth 100000
set_option maxHeartbeats 0
noncomputable abbrev lamParams : Arguments := { posonlyargs := [], args := [{ arg := Str.ofString "told", annotation := none, pos := { line := 138, col := 25, endLine := 138, endCol := 29 } }, { arg := Str.ofString "pair", annotation := none, pos := { line := 138, col := 31, endLine := 138, endCol := 35 } }], vararg := none, kwonlyargs := [], kw_defaults := [], kwarg := none, defaults := [] }
noncomputable abbrev lamBody : Expr := (((Expr.Name (Str.ofString "told") { line := 138, col := 45, endLine := 138, endCol := 49 }).Compare [CmpOp.NotEq] [Expr.Constant (Const.int 0) 0 { line := 138, col := 53, endLine := 138, endCol := 54 }] { line := 138, col := 45, endLine := 138, endCol := 54 }).IfExp (Expr.Name (Str.ofString "told") { line := 138, col := 37, endLine := 138, endCol := 41 }) ((((Expr.Name (Str.ofString "signs") { line := 138, col := 60, endLine := 138, endCol := 65 }).Attribute (Str.ofString "index") { line := 138, col := 60, endLine := 138, endCol := 71 }).Call [(Expr.Name (Str.ofString "pair") { line := 138, col := 72, endLine := 138, endCol := 76 }).Subscript (Expr.Constant (Const.int 0) 0 { line := 138, col := 77, endLine := 138, endCol := 78 }) { line := 138, col := 72, endLine := 138, endCol := 79 }] [] { line := 138, col := 60, endLine := 138, endCol := 80 }).BinOp Operator.Sub (((Expr.Name (Str.ofString "signs") { line := 138, col := 83, endLine := 138, endCol := 88 }).Attribute (Str.ofString "index") { line := 138, col := 83, endLine := 138, endCol := 94 }).Call [(Expr.Name (Str.ofString "pair") { line := 138, col := 95, endLine := 138, endCol := 99 }).Subscript (Expr.Constant (Const.int 1) 0 { line := 138, col := 100, endLine := 138, endCol := 101 }) { line := 138, col := 95, endLine := 138, endCol := 102 }] [] { line := 138, col := 83, endLine := 138, endCol := 103 }) { line := 138, col := 60, endLine := 138, endCol := 103 }) { line := 138, col := 37, endLine := 138, endCol := 103 })
noncomputable abbrev lamScope : Scope := { kind := ScopeKind.function, names := [(Str.ofString "told", NameKind.local), (Str.ofString "pair", NameKind.local), (Str.ofString "signs", NameKind.free)], isGenerator := false, isCoroutine := false }
noncomputable abbrev alph : Str := Str.ofString "ABCDEFGHIJKLMNOPQRSTUVWXYZabcdefghijklmnopqrstuvwxyz0123456789+/"
noncomputable def placeOf (c : Nat) : Int := Txt.find alph (sgn c)
noncomputable def stepOf (v : Int) (c1 c2 : Nat) : Int := if v ≠ 0 then v else placeOf c1 - placeOf c2
local macro_rules | `(tactic| ktr_member) => `(tactic| assumption)
theorem idx_never {c : Nat} (h : 0 ≤ placeOf c) {b : Prop} (hz : Txt.find alph (sgn c) = -1) : b := absurd h (by rw [show placeOf c = -1 from hz]; decide)
set_option hygiene false in
local macro_rules | `(tactic| walk_at "call builtin:str.index") => `(tactic| (k_dflt (first | refine index_or (by rfl) (idx_never h1) (fun _ _ => ?_) | refine index_or (by rfl) (idx_never h2) (fun _ _ => ?_))))
theorem t_lam (w : World) (mean mg mb) (f c' cell : Addr) (oc oe : Obj) (vs : Array Value) (t tq : Tok) (qual : Str) (pm ctv : Value) (v : Int) (tv : Tok) (T : Addr) (t1 t2 : Tok) (c1 c2 : Nat) (hoc : oc.data = .fields vs) (hvs : vs[1]? = some (.str qual tq)) (hoe : oe.data = .cell (some (.str alph t)))
    (h1 : 0 ≤ placeOf c1) (h2 : 0 ≤ placeOf c2) :
    Ct 40 w mean mg mb (.ref f) [.int v tv, .ref T] [] (fun news => ((f, kla_obj (Str.ofString "<lambda>") qual lamParams lamBody lamScope [(Str.ofString "signs", cell)] pm c' ctv) ∈ news ∧ (c', oc) ∈ news ∧ (cell, oe) ∈ news) ∧ (T, pairObj (.str (sgn c1) t1) (.str (sgn c2) t2)) ∈ news) (fun _ r => ∃ t', r = .int (stepOf v c1 c2) t') := by
  w_top off
  unfold Ct PG; k_fill
  intro dp un gd cn cs a ccd cl outer A₀ base h₀ L m news s Q E B F X N T' hk hdp hun hpre hret
  obtain ⟨⟨hf, hc, he⟩, hT⟩ := hpre
  refine wpAny_call ?_
  k_dflt ((refine' kla_code (by k_asm) (by k_asm) (by k_asm) (by k_asm) (by k_asm) (by exact rfl) (by exact rfl) (by assumption) (by k_mem) (by exact codeRec_news (by k_asm) (by k_mem) (by assumption) (by assumption)) (by k_room) (by exact rfl) (by exact locs rfl) ?_ (by exact rfl) (by exact rfl) (by exact rfl) (by decide); k_whole; intro g' L' h' FG' F' N' B' X' T'; (try dsimp only); (try k_lift B'); (try k_fold)))
  dsimp only [lamBody, lamScope, lamParams]
  k_steps
  · skip
    k_dflt (exact hret _ [] _ _ (by k_asm) (News.sub0 (by k_asm) (fun p hp => by repeat (first | exact hp | apply List.mem_cons_of_mem))) Over.nil ⟨_, by rw [stepOf, if_pos (by assumption)]⟩)
  · k_dflt (exact hret _ [] _ _ (by k_asm) (News.sub0 (by k_asm) (fun p hp => by repeat (first | exact hp | apply List.mem_cons_of_mem))) Over.nil ⟨_, by rw [stepOf, if_neg (fun q => q (by assumption))]; rfl⟩)
end SE1
section SE3
local macro_rules | `(tactic| walk_at "none") => `(tactic| skip)
local macro_rules | `(tactic| walk_at "none") => `(tactic| skip)
local macro_rules | `(tactic| walk_at "none") => `(tactic| skip)
local macro_rules | `(tactic| walk_at "none") => `(tactic| skip)
open PySem PySem.W PyProof.Rows PySem.Calls
set_option Elab.async false
set_option maxRecDepth 100000
set_option maxHeartbeats 0
noncomputable abbrev turnTab (c' : Addr) : Array Value := #[rawInt ((138 : Nat) : Int), rawInt ((18 : Nat) : Int), .ref c']
noncomputable abbrev lamQual : Str := Str.ofString "_law_turn" ++ Str.ofString ".<locals>." ++ Str.ofString "<lambda>"
/-- the table of _law_turn's code: as it was made, or with the lambda's code -/
noncomputable def TabInv (ps : Array Value) (l : Led) : Prop := ps = #[] ∨ ∃ c' oc vs t, ps = turnTab c' ∧ (c', oc) ∈ l ∧ oc.data = .fields vs ∧ vs[1]? = some (.str lamQual t)
theorem TabInv.mono {ps : Array Value} {l l' : Led} (h : TabInv ps l) (hs : ∀ p ∈ l, p ∈ l') : TabInv ps l' := h.imp id fun ⟨c', oc, vs, t, a, b, c⟩ => ⟨c', oc, vs, t, a, hs _ b, c⟩
section
variable {M : Model} {A : Around} {E : Value → Shared → Prop} {s : Shared} {h₀ : Heap} {L a c P : Addr} {m mg mb : Str → Option Value} {cn : Str} {cs : Scope} {ccd : Value} {cl : List (Str × Addr)} {news rest : List (Addr × Obj)} {g : Obj → List (Addr × Obj)}
  {p : Program} {loose : List Str} {mean : ExcName → Option Value} {params : Arguments} {body : Expr} {scope : Scope} {ps : Array Value} {firstLine : Nat} {clos : List (Str × Addr)}
theorem lam_any {Q : Value → Shared → Prop} {el ec : Nat} (F : Fr h₀ L s.heap m) (N : News h₀ L s.heap news) (T : Top p loose mean mg mb h₀) (C : CodeHd h₀ c P) (hcd : ccd = .ref c) (U : UpdF P (tabObj ps) news g) (I : TabInv ps rest) (hr : ∀ q ∈ rest, q ∈ news)
    (hcl : closureFor scope (envX cn cs L a ccd cl) = pure clos)
    (h : ∀ f c' oc vs t ctv h' tk tl, Fr h₀ L h' m → News h₀ L h' ((f, kla_obj "<lambda>" lamQual params body scope clos ((mg "__name__").getD .none) c' ctv) :: (tl ++ g (tabObj (turnTab c')))) → oc.data = .fields vs → vs[1]? = some (.str lamQual t) → (c', oc) ∈ tl ++ rest →
      (∀ q ∈ tl, ∀ r ∈ news, r.1 < q.1) → (∀ q ∈ news, q.1 < f) → (∀ q ∈ tl, q.1 < f) → Q (.ref f) { s with heap := h', toks := tk }) :
    wpAny M A (makeFunction "<lambda>" lamQual params (.expr body) scope (envX cn cs L a ccd cl) [] [] [] ⟨138, 18, el, ec⟩ firstLine) Q E s := by
  rcases I with rfl | ⟨c', oc, vs, t, rfl, hm, hd, hv⟩
  · refine kla_nest (ps := #[]) F N T C hcd U trivial rfl hcl fun f c' oc vs t ctv h' tk F' N' hd hv l1 l2 => ?_
    refine h f c' oc vs t ctv h' tk [(c', oc)] F' N' hd hv (.head _) (fun q hq r hr => ?_) (fun q hq => Nat.lt_trans (l1 q hq) l2) fun q hq => ?_
    · rw [List.mem_singleton.mp hq]; exact l1 r hr
    · rw [List.mem_singleton.mp hq]; exact l2
  · obtain ⟨own, rest', e, hg, h1, h2⟩ := U.split
    have hN : g (tabObj (turnTab c')) = news := by rw [hg, e]
    refine kla_hit (ps := turnTab c') (c' := c') F N T C hcd (by rw [e]; exact List.mem_append_right _ (.head _)) ?_ ?_ hcl fun f ctv h' tk F' N' l1 => ?_
    · simp [TriplesOk, rawInt]
    · simp [codeAmong, rawInt]
    · refine h f c' oc vs t ctv h' tk [] F' ?_ hd hv hm (fun q hq => nomatch hq) l1 fun q hq => nomatch hq
      rw [List.nil_append, hN]; exact N'
end
/-- the contract of a call that may fill the table of _law_turn's code -/
noncomputable def CtT (k : Nat) (w : World) (mean : ExcName → Option Value) (mg mb : Str → Option Value) (f : Value) (vs : List Value) (pre : Led → Prop) (Out : Value → Prop) : Prop :=
  ∀ (dp un : Nat) (gd : Option (List Code)) (cn : Str) (cs : Scope) (a : Addr) (ccd : Value) (cl : List (Str × Addr)) (outer : List Env) (A₀ : Around) (base h₀ : Heap) (L : Addr) (m : Str → Option Value) (ps : Array Value) (news : Led) (s : Shared) (Q E : Value → Shared → Prop),
    Below A₀ base outer h₀ → Fr h₀ L s.heap m → (hK w.params).In h₀ → News h₀ L s.heap ((130, tabObj ps) :: news) → Top VW LS mean mg mb h₀ → CodeHd h₀ 134 130 → cs.kind = .function → dp + k < 1000 → un + 8 * k < 9900 → (∀ p ∈ news, p.1 ≠ 130) → TabInv ps news → pre news →
    (∀ r ps' tl h' tk', Fr h₀ L h' m → News h₀ L h' ((130, tabObj ps') :: (news ++ tl)) → Over news tl → (∀ p ∈ tl, p.1 ≠ 130) → TabInv ps' (news ++ tl) → Out r → Q r { s with heap := h', toks := tk' }) →
    wpAny (model PG w) (ktrTop dp un gd cn cs L a ccd cl outer) (call f vs) Q E s
/-- what _law_turn gives of two writings -/
noncomputable def turnVal (x y : Str) : Int := if zfold stepOf x y (min x.cps.size y.cps.size) ≠ 0 then zfold stepOf x y (min x.cps.size y.cps.size) else (x.length : Int) - (y.length : Int)
theorem allLt_all {d : Addr} : ∀ {l : Led}, AllLt d l → ∀ p ∈ l, p.1 < d
  | [], _, _, h => nomatch h
  | _ :: _, x, p, h => by
    rcases List.mem_cons.mp h with rfl | h
    · exact x.1
    · exact allLt_all x.2 p h
theorem zapart_lt {z TI TO i1 i2 : Addr} (h1 : i1 < i2) (h2 : i2 < TI) (h3 : TI < TO) (h4 : TO < z) : ZApart z TI TO i1 i2 := by
  have h1' : @LT.lt Nat _ i1 i2 := h1
  have h2' : @LT.lt Nat _ i2 TI := h2
  have h3' : @LT.lt Nat _ TI TO := h3
  have h4' : @LT.lt Nat _ TO z := h4
  constructor <;> (show @Ne Nat _ _; omega)
theorem zne_lt {z TI TO i1 i2 : Addr} {l : Led} (h0 : ∀ p ∈ l, p.1 < i1) (h1 : i1 < i2) (h2 : i2 < TI) (h3 : TI < TO) (h4 : TO < z) : Zne z TI TO i1 i2 l := ⟨fun p hp => by
  have h0' : @LT.lt Nat _ p.1 i1 := h0 p hp
  have h1' : @LT.lt Nat _ i1 i2 := h1
  have h2' : @LT.lt Nat _ i2 TI := h2
  have h3' : @LT.lt Nat _ TI TO := h3
  have h4' : @LT.lt Nat _ TO z := h4
  refine ⟨?_, ?_, ?_, ?_, ?_⟩ <;> (show @Ne Nat _ _; omega)⟩
theorem ct_pre {k : Nat} {w : World} {mean : ExcName → Option Value} {mg mb : Str → Option Value} {f : Value} {vs : List Value} {kw : List (Str × Value)} {pre pre' : Led → Prop} {Out : Led → Value → Prop} (C : Ct k w mean mg mb f vs kw pre Out) (h : ∀ l, pre' l → pre l) : Ct k w mean mg mb f vs kw pre' Out :=
  fun dp un gd cn cs a ccd cl outer A₀ base h₀ L m news s Q E B F X N T hk hd hu hp ret => C dp un gd cn cs a ccd cl outer A₀ base h₀ L m news s Q E B F X N T hk hd hu (h _ hp) ret
theorem mem_mid {p a b c : Addr × Obj} {tl news : Led} (h : p ∈ tl ++ news) : p ∈ tl ++ a :: b :: c :: news := List.mem_append.mpr ((List.mem_append.mp h).imp id fun h => .tail _ (.tail _ (.tail _ h)))
/-- what the frame of _law_turn leaves behind -/
noncomputable abbrev turnTl (f D C : Addr) (of oD oC : Obj) (tl9 tl7 : Led) : Led := (f, of) :: (tl9 ++ ((D, oD) :: (C, oC) :: tl7))
theorem turn_fin {f D C : Addr} {of oD oC : Obj} {tl9 tl7 news : Led} {ps ps' : Array Value} (l91 : ∀ q ∈ tl9, ∀ r ∈ (D, oD) :: (C, oC) :: (130, tabObj ps) :: news, r.1 < q.1) (l92 : ∀ r ∈ (D, oD) :: (C, oC) :: (130, tabObj ps) :: news, r.1 < f)
    (lD : ∀ p ∈ news, p.1 < D) (hD : @LT.lt Nat _ 130 D) (lC : ∀ p ∈ news, p.1 < C) (hC : @LT.lt Nat _ 130 C) (O : Over ((f, of) :: (tl9 ++ (D, oD) :: (C, oC) :: (130, tabObj ps') :: news)) tl7) : Over news (turnTl f D C of oD oC tl9 tl7) ∧ ∀ p ∈ turnTl f D C of oD oC tl9 tl7, p.1 ≠ 130 := by
  have key : ∀ r, (r = (130, tabObj ps') ∨ r ∈ news) → ∀ p ∈ turnTl f D C of oD oC tl9 tl7, r.1 ≠ p.1 := by
    intro r hr p hp
    have a1 : ∀ q ∈ tl9, @LT.lt Nat _ r.1 q.1 := fun q hq => by
      rcases hr with rfl | hr
      · exact l91 q hq (130, tabObj ps) (.tail _ (.tail _ (.head _)))
      · exact l91 q hq r (.tail _ (.tail _ (.tail _ hr)))
    have a2 : @LT.lt Nat _ r.1 f := by
      rcases hr with rfl | hr
      · exact l92 (130, tabObj ps) (.tail _ (.tail _ (.head _)))
      · exact l92 r (.tail _ (.tail _ (.tail _ hr)))
    have a3 : @LT.lt Nat _ r.1 D := by rcases hr with rfl | hr; exact hD; exact lD r hr
    have a4 : @LT.lt Nat _ r.1 C := by rcases hr with rfl | hr; exact hC; exact lC r hr
    have a5 : ∀ q ∈ tl7, r.1 ≠ q.1 := fun q hq => O r (by
      refine .tail _ (List.mem_append_right _ (.tail _ (.tail _ ?_)))
      rcases hr with rfl | hr
      · exact .head _
      · exact .tail _ hr) q hq
    rcases List.mem_cons.mp hp with rfl | hp
    · exact Nat.ne_of_lt a2
    · rcases List.mem_append.mp hp with hp | hp
      · exact Nat.ne_of_lt (a1 p hp)
      · rcases List.mem_cons.mp hp with rfl | hp
        · exact Nat.ne_of_lt a3
        · rcases List.mem_cons.mp hp with rfl | hp
          · exact Nat.ne_of_lt a4
          · exact a5 p hp
  exact ⟨fun q hq p hp => key q (.inr hq) p hp, fun p hp => (key (130, tabObj ps') (.inl rfl) p hp).symm⟩
theorem turn_sub {f D C : Addr} {of oD oC : Obj} {tl9 tl7 news : Led} {ps' : Array Value} {h₀ h' : Heap} {L : Addr} (N : News h₀ L h' (((f, of) :: (tl9 ++ (D, oD) :: (C, oC) :: (130, tabObj ps') :: news)) ++ tl7)) : News h₀ L h' ((130, tabObj ps') :: (news ++ turnTl f D C of oD oC tl9 tl7)) := fun p hp => N p (by
  simp only [turnTl, List.mem_cons, List.mem_append] at hp ⊢
  rcases hp with h | h | h | h | h | h | h <;> simp [h])
theorem turn_inv {f D C c9 : Addr} {of oD oC oc9 : Obj} {tl9 tl7 news : Led} {vs9 : Array Value} {t : Tok} (m9 : (c9, oc9) ∈ tl9 ++ news) (h1 : oc9.data = .fields vs9) (h2 : vs9[1]? = some (.str lamQual t)) : TabInv (turnTab c9) (news ++ turnTl f D C of oD oC tl9 tl7) :=
  .inr ⟨c9, oc9, vs9, t, rfl, by
    rcases List.mem_append.mp m9 with h | h
    · exact List.mem_append_right _ (.tail _ (List.mem_append_left _ h))
    · exact List.mem_append_left _ h, h1, h2⟩
set_option hygiene false in
local macro_rules | `(tactic| walk_at "call builtin:len") => `(tactic| (k_dflt (refine len_str (by omega) ?_)))
set_option hygiene false in
set_option hygiene false in
local macro_rules | `(tactic| walk_at "eval Lambda") => `(tactic| refine halted hstop ?_)
set_option hygiene false in
local macro_rules | `(tactic| walk_at "call type:zip") => `(tactic| refine halted hstop ?_)
theorem t_turn {sx sy : Str} (hlx : (Txt.slice sx (some 8) none).length < 100) (hly : (Txt.slice sy (some 8) none).length < 100) (hax : (Txt.slice sx (some 8) none).cps.all (· < 128) = true) (hay : (Txt.slice sy (some 8) none).cps.all (· < 128) = true) (hsx : sx.length ≤ sizeLine) (hsy : sy.length ≤ sizeLine)
    (hn : 1 ≤ min (Txt.slice sx (some 8) none).cps.size (Txt.slice sy (some 8) none).cps.size) (hpx : ∀ (i : Nat) c, (Txt.slice sx (some 8) none).cps[i]? = some c → 0 ≤ placeOf c) (hpy : ∀ (i : Nat) c, (Txt.slice sy (some 8) none).cps[i]? = some c → 0 ≤ placeOf c)
    (w : World) (mean mg mb) (x y : Addr) (itsx itsy : List Value) (dx dy : Value) (tx ty : Tok) :
    CtT 100 w mean mg mb (.ref 135) [.ref x, .ref y] (fun news => EntAt w news (.ref x) itsx dx [.str sx tx] ∧ EntAt w news (.ref y) itsy dy [.str sy ty]) (fun r => ∃ t', r = .int (turnVal (Txt.slice sx (some 8) none) (Txt.slice sy (some 8) none)) t') := by
  w_top off
  unfold CtT PG; k_fill
  intro dp un gd cn cs a ccd cl outer A₀ base h₀ L m ps news s Q E B F X N T C hk hdp hun hlt hI hpre hret
  obtain ⟨⟨x', d, l1, l2, k1, k2, t1, t2, t3, t4, e, hx, hd, h1, h2⟩, ⟨y', d', l1', l2', k1', k2', t1', t2', t3', t4', e', hx', hd', h1', h2'⟩⟩ := hpre
  cases e
  cases e'
  refine wpAny_call ?_
  k_dflt ((refine' code_defC (by k_asm) (by k_asm) (by k_asm) (by k_asm) (by k_asm) (by exact rfl) (by exact rfl) (by assumption) (by k_is) (by k_is) (by k_room) (by first | exact BindsTo.of_eq rfl | exact binds_K (by k_in) rfl (by k_is) rfl rfl rfl | fail "k_enter: no rule for these arguments") (by exact rfl) (by decide +kernel) ?_ (by exact rfl) (by exact rfl) (by exact rfl); k_whole; intro g' L' h' tk' cells' FG' F' N' Y' B' X' T' l1; (try k_lt l1); k_cells Y'; (try simp only [List.cons_append, List.nil_append] at N'); (try dsimp only); (try k_lift B'); (try k_fold)))
  have l9 := allLt_all (‹_ ∧ AllLt _ news›).2
  have hstop := True.intro
  k_steps
  first
    | ((with_reducible show wpAny _ _ (subscriptTail _ (Expr.Slice _ _ none _) (Value.str _ _) (Value.ref _)) _ _ _); (rename Fr _ _ _ _ => F'); (rename News _ _ _ _ => N'); k_dflt (refine slice_strN_sn (s := ⟨_, _, _, _, _⟩) F' N' ?_ (hsz := by assumption)); intro h9 t9 k9 F9 N9)
    | ((with_reducible show wpAny _ _ (subscriptTail _ _ (Value.ref _) (Value.int _ _)) _ _ _); k_dflt (refine' kim_list (by k_asm) (by k_mem) (by exact rfl) (by exact rfl) (by decide) (by decide) (by exact rfl) ?_))
  k_steps
  first
    | ((with_reducible show wpAny _ _ (subscriptTail _ (Expr.Slice _ _ none _) (Value.str _ _) (Value.ref _)) _ _ _); (rename Fr _ _ _ _ => F'); (rename News _ _ _ _ => N'); k_dflt (refine slice_strN_sn (s := ⟨_, _, _, _, _⟩) F' N' ?_ (hsz := by assumption)); intro h9 t9 k9 F9 N9)
    | ((with_reducible show wpAny _ _ (subscriptTail _ _ (Value.ref _) (Value.int _ _)) _ _ _); k_dflt (refine' kim_list (by k_asm) (by k_mem) (by exact rfl) (by exact rfl) (by decide) (by decide) (by exact rfl) ?_))
  k_steps
  ((k_dflt (refine' kla_eval (by exact rfl) ?_)); (k_dflt (refine' lam_any (rest := news) (by k_asm) (by k_asm) (by k_asm) (by exact CodeHd.keeps C (Fr.keep (by assumption))) (by exact rfl) (by k_updF) (by exact hI) (by exact (fun q hq => by repeat (first | exact hq | apply List.mem_cons_of_mem))) (by exact rfl) ?_)); intro f9 c9 oc9 vs9 tq9 ctv9 h9 tk9 tl9 F9 N9 d91 d92 m9 l91 l92 l93; (try dsimp only at N9))
  k_steps
  (k_dflt (refine' k_zip hax hay (by k_asm) (by k_asm) ?_); intro z8 TI8 TO8 i18 i28 h8 F8 N8 lz1 lz2 lz3 lz4 lz5)
  k_steps
  (k_dflt (refine' t_reduce3 w mean mg mb 40 _ _ _ _ _ _ _ _ _ _ (zapart_lt lz2 lz3 lz4 lz5) hn stepOf (fun l => ∀ p ∈ _, p ∈ l) (fun a b hs h p hp => hs p (h p hp)) (by exact fun l hl => ⟨_, _, _, _, hl _ (List.Mem.head _)⟩) (by exact fun i v tv T t1 t2 c1 c2 e1 e2 => ct_pre (t_lam w mean mg mb f9 c9 _ oc9 _ vs9 _ tq9 lamQual _ ctv9 v tv T t1 t2 c1 c2 d91 d92 (by assumption) (hpx _ _ e1) (hpy _ _ e2)) (fun l hl => ⟨⟨hl.1 _ (List.Mem.head _), hl.1 _ (List.mem_cons_of_mem _ (mem_mid m9)), hl.1 _ (List.mem_cons_of_mem _ (List.mem_append_right _ (List.mem_cons_of_mem _ (List.Mem.head _))))⟩, hl.2⟩)) _ _ _ _ _ _ _ _ _ _ _ _ _ _ _ _ _ _ _ _ _ (by k_asm) (by k_asm) (by k_asm) N8 ⟨rfl, rfl⟩ ⟨rfl, rfl⟩ (zne_lt lz1 lz2 lz3 lz4 lz5) (by k_asm) (by k_dflt rfl) (by k_room) (by k_units) (fun p hp => hp) ?_); intro r7 tl7 h7 tk7 F7 N7 O7 o7; obtain ⟨t7, rfl⟩ := o7)
  k_steps
  all_goals (rename _ ∧ _ ∧ AllLt _ news => lD; rename _ ∧ AllLt _ news => lL)
  · k_dflt (have fin := turn_fin l91 l92 (allLt_all lD.2.2) lD.2.1 (fun p hp => Nat.lt_succ_of_lt (allLt_all lL.2 p hp)) (Nat.lt_succ_of_lt lL.1) O7)
    k_dflt (exact hret _ _ _ _ _ (by k_asm) (turn_sub (by k_asm)) fin.1 fin.2 (turn_inv m9 d91 d92) ⟨_, by rw [turnVal, if_pos (by assumption)]⟩)
  · k_dflt (have fin := turn_fin l91 l92 (allLt_all lD.2.2) lD.2.1 (fun p hp => Nat.lt_succ_of_lt (allLt_all lL.2 p hp)) (Nat.lt_succ_of_lt lL.1) O7)
    k_dflt (exact hret _ _ _ _ _ (by k_asm) (turn_sub (by k_asm)) fin.1 fin.2 (turn_inv m9 d91 d92) ⟨_, by rw [turnVal, if_neg (fun q => q (by assumption))]⟩)
end SE3
section SS3a
open PySem PySem.W PyProof.Rows PySem.Calls
set_option Elab.async false
set_option maxRecDepth 100000
set_option maxHeartbeats 0
/-- a writing that _law_turn can compare -/
structure TxOk (s : Str) : Prop where
  len : (Txt.slice s (some 8) none).length < 100
  asc : (Txt.slice s (some 8) none).cps.all (· < 128) = true
  fit : s.length ≤ sizeLine
  pos : 1 ≤ (Txt.slice s (some 8) none).cps.size
  pl : ∀ (i : Nat) c, (Txt.slice s (some 8) none).cps[i]? = some c → 0 ≤ placeOf c
theorem place_all : alph.cps.toList.all (fun c => decide (0 ≤ placeOf c)) = true := by decide +kernel
theorem place_ok {c : Nat} (h : c ∈ alph.cps.toList) : 0 ≤ placeOf c := by
  have := List.all_eq_true.mp place_all c h
  simpa using this
noncomputable abbrev alphN : List Nat := [65, 66, 67, 68, 69, 70, 71, 72, 73, 74, 75, 76, 77, 78, 79, 80, 81, 82, 83, 84, 85, 86, 87, 88, 89, 90, 97, 98, 99, 100, 101, 102, 103, 104, 105, 106, 107, 108, 109, 110, 111, 112, 113, 114, 115, 116, 117, 118, 119, 120, 121, 122, 48, 49, 50, 51, 52, 53, 54, 55, 56, 57, 43, 47]
theorem alph_eq : alph.cps.toList = alphN := by decide +kernel
noncomputable abbrev preN : Str := ⟨#[65, 108, 108, 111, 119, 58, 32, 47]⟩
theorem pre_eq : Str.ofString "Allow: /" = preN := by decide +kernel
theorem slice8 (y : Str) (h1 : 1 ≤ y.cps.size) (h6 : y.cps.size ≤ 6) : Txt.slice (preN ++ y) (some 8) none = y := by
  obtain ⟨⟨l⟩⟩ := y
  match l, h1, h6 with
  | [], h1, _ => exact absurd h1 (by simp)
  | [_], _, _ => kernel_rfl
  | [_, _], _, _ => kernel_rfl
  | [_, _, _], _, _ => kernel_rfl
  | [_, _, _, _], _, _ => kernel_rfl
  | [_, _, _, _, _], _, _ => kernel_rfl
  | [_, _, _, _, _, _], _, _ => kernel_rfl
  | _ :: _ :: _ :: _ :: _ :: _ :: _ :: _, _, h6 => exact absurd h6 (by simp)
noncomputable def chN (c : Nat) : Bool := alphN.contains c
theorem alph_lt : alphN.all (fun c => decide (c < 128)) = true := by decide +kernel
noncomputable def txCheck (r : List Int) : Bool := (bare r).all fun c => chN c.toNat
theorem rowsAll_tx : rowsAll.all txCheck = true := by decide +kernel
theorem chN_mem {c : Nat} (h : chN c = true) : c ∈ alphN := List.contains_iff_mem.mp h
theorem row_tx {r : List Int} (h : r ∈ rowsAll) : Txt.slice (lineOf r) (some 8) none = wr64 r ∧ TxOk (lineOf r) := by
  have f := List.all_eq_true.mp rowsAll_tx r h
  have ok := row_ok h
  have el : lineOf r = preN ++ wr64 r := by unfold lineOf; rw [pre_eq]
  have sz : (wr64 r).cps.size = (bare r).length := by show ((bare r).map (·.toNat)).toArray.size = _; simp
  have a := slice8 (wr64 r) (by rw [sz]; exact ok.blo) (by rw [sz]; exact ok.bhi)
  have ch : ∀ c ∈ (wr64 r).cps.toList, chN c = true := fun c hc => by
    obtain ⟨n, hn, rfl⟩ := List.mem_map.mp (show c ∈ (bare r).map (·.toNat) from hc)
    exact List.all_eq_true.mp f n hn
  have l6 := wr64_len ok
  have lf := line_fits ok
  rw [el]
  refine ⟨a, by rw [a]; omega, ?_, ?_, by rw [a, sz]; exact ok.blo, fun i c hc => ?_⟩
  · rw [a, ← Array.all_toList, List.all_eq_true]
    intro c hc
    exact List.all_eq_true.mp alph_lt c (chN_mem (ch c hc))
  · rw [← el]; exact Nat.le_trans (Nat.le_of_eq (Str.length_append ..)) lf
  · rw [a] at hc
    refine place_ok ?_
    rw [alph_eq]
    exact chN_mem (ch c (List.mem_of_getElem? (by rw [Array.getElem?_toList]; exact hc)))
end SS3a
section SK1
open PySem PySem.W PyProof.Rows PySem.Calls
set_option Elab.async false
set_option maxRecDepth 100000
set_option maxHeartbeats 0
theorem ev_args1 {prog : Program} {w : World} {A : Around} {E : Value → Shared → Prop} {s : Shared} {f : Value} {e : Expr} {pos : Pos} {env : Env} {Q : Args → Shared → Prop} (h : wpAny (model prog w) A (eval e env) (fun v s1 => Q ⟨[v], []⟩ s1) E s) (he : starEach [e] env = [(false, eval e env)]) :
    wpAny (model prog w) A (evalArgs f false (backTo pos (starEach [e] env)) (backToKw pos (keywordEach [] env))) Q E s := by
  unfold evalArgs
  show wpAny (model prog w) A (spliced (backTo pos (starEach [e] env)) >>= _) Q E s
  refine wpAny_bind (args_cons (wpAny_mono h (fun v s1 hq => args_nil ?_) fun _ _ x => x) (by rw [he]; rfl))
  refine wpAny_holding ?_
  exact wpAny_bind (wpAny_pure (wpAny_bind (wpAny_pure (wpAny_pure hq))))
noncomputable abbrev ltBody (q0 q1 q2 q3 q4 q5 q6 q7 q8 : Pos) : List Stmt := [.Return (some (.Compare (.Call (.Name (sN "mycmp") q0) [.Attribute (.Name (sN "self") q1) (sN "obj") q2, .Attribute (.Name (sN "other") q3) (sN "obj") q4] [] q5) [.Lt] [.Constant (.int 0) 0 q6] q7)) q8]
noncomputable abbrev initBody (q0 q1 q2 q3 : Pos) : List Stmt := [.Assign [.Attribute (.Name (sN "self") q0) (sN "obj") q1] (.Name (sN "obj") q2) q3]
/-- class K as it stands: its objects l, its address c -/
inductive KObjs (w : World) (l : Led) (c : Addr) : Prop
  | mk (n' md b sl f0 f1 f2 f3 f4 f5 st c0 c1 cell : Addr) (o0 o1 oc : Obj) (vs0 vs1 : Array Value) (s0 s1 u1 u2 kt tm to td : Tok) (d0 d1 x0 x1 pm : Value) (tt : Nat → Tok) (a1 b1 a2 b2 : Pos) (q0 q1 q2 q3 q4 q5 q6 q7 q8 r0 r1 r2 r3 : Pos)
    (hl : l = [(c, clsD c n' b kt (tt 14)), (n', nsC w.params tt u1 u2 to td sl f0 f1 f2 f3 f4 f5 st md), (md, kmd c tm), (f1, kFn "__lt__" (kPar "self" "other" a2 b2) (ltBody q0 q1 q2 q3 q4 q5 q6 q7 q8) kSc2 [(sN "mycmp", cell)] d1 pm c1 x1), (c1, o1), (f0, kFn "__init__" (kPar "self" "obj" a1 b1) (initBody r0 r1 r2 r3) kSc1 [] d0 pm c0 x0), (c0, o0), (cell, oc)])
    (e0 : o0.data = .fields vs0) (e1 : vs0[1]? = some (.str (kQ "__init__") s0)) (e2 : o1.data = .fields vs1) (e3 : vs1[1]? = some (.str (kQ "__lt__") s1)) (e4 : oc.data = .cell (some (.ref 135))) : KObjs w l c
noncomputable def KAt (w : World) (news : Led) (c : Addr) : Prop := ∃ l, KObjs w l c ∧ ∀ p ∈ l, p ∈ news
theorem KAt.mono {w : World} {news news' : Led} {c : Addr} (h : KAt w news c) (hs : ∀ p ∈ news, p ∈ news') : KAt w news' c := let ⟨l, h1, h2⟩ := h; ⟨l, h1, fun p hp => hs p (h2 p hp)⟩
theorem news_cons {h₀ h : Heap} {L a : Addr} {o : Obj} {l : Led} (e : h.get? a = some o ∧ a ≠ L ∧ h₀.get? a = none) (N : News h₀ L h l) : News h₀ L h ((a, o) :: l) := fun p hp => by
  rcases List.mem_cons.mp hp with rfl | hp
  · exact e
  · exact N p hp
theorem news_perm8 {h₀ h : Heap} {L : Addr} {p1 p2 p3 p4 p5 p6 p7 p8 t : Addr × Obj} {news : Led} (N : News h₀ L h (p1 :: p2 :: p3 :: p4 :: p5 :: p6 :: p7 :: p8 :: t :: news)) : News h₀ L h (t :: (news ++ [p1, p2, p3, p4, p5, p6, p7, p8])) := fun p hp => N p (by
  simp only [List.mem_cons, List.mem_append, List.not_mem_nil, or_false] at hp ⊢
  rcases hp with h | h | h | h | h | h | h | h | h | h <;> simp [h])
theorem allLt_all' {d : Addr} : ∀ {l : Led}, AllLt d l → ∀ p ∈ l, p.1 < d
  | [], _, _, h => nomatch h
  | _ :: _, x, p, h => by
    rcases List.mem_cons.mp h with rfl | h
    · exact x.1
    · exact allLt_all' x.2 p h
theorem t_ck (w : World) (mean mg mb) (dp un : Nat) (gd : Option (List Code)) (cn : Str) (cs : Scope) (a : Addr) (ccd : Value) (cl : List (Str × Addr)) (outer : List Env) (A₀ : Around) (base h₀ : Heap) (L : Addr) (m : Str → Option Value) (news : Led) (s : Shared) (Q E : Value → Shared → Prop)
    (B : Below A₀ base outer h₀) (F : Fr h₀ L s.heap m) (X : (hK w.params).In h₀) (N : News h₀ L s.heap ((102, tabObj #[]) :: news)) (T : Top VW LS mean mg mb h₀) (C : CodeHd h₀ 106 102) (hSM : ∃ o, h₀.get? sysModules = some o) (hlt : ∀ p ∈ news, p.1 ≠ 102) (hk : cs.kind = .function) (hdp : dp + 200 < 1000) (hun : un + 8 * 200 < 9900)
    (hret : ∀ (c : Addr) (ps : Array Value) (tl : Led) (h' : Heap) (tk' : Nat), Fr h₀ L h' m → News h₀ L h' ((102, tabObj ps) :: (news ++ tl)) → Over news tl → (∀ p ∈ tl, p.1 ≠ 102) → KAt w tl c → Q (.ref c) { s with heap := h', toks := tk' }) :
    wpAny (model PG w) (ktrTop dp un gd cn cs L a ccd cl outer) (call (.ref 107) [.ref 135]) Q E s := by
  w_top off
  revert X T C
  unfold PG; k_fill
  intro X T C
  refine wpAny_call ?_
  k_dflt ((refine' code_defC (by k_asm) (by k_asm) (by k_asm) (by k_asm) (by k_asm) (by exact rfl) (by exact rfl) (by assumption) (by k_is) (by k_is) (by k_room) (by first | exact BindsTo.of_eq rfl | exact binds_K (by k_in) rfl (by k_is) rfl rfl rfl | fail "k_enter: no rule for these arguments") (by exact rfl) (by decide +kernel) ?_ (by exact rfl) (by exact rfl) (by exact rfl); k_whole; intro g' L' h' tk' cells' FG' F' N' Y' B' X' T' l1; (try k_lt l1); k_cells Y'; (try simp only [List.cons_append, List.nil_append] at N'); (try dsimp only); (try k_lift B'); (try k_fold)))
  rename_i oc hoc
  have hoc' : oc.data = .cell (some (.ref 135)) := hoc
  clear hoc
  refine wpAny_execs_cons ?_
  rw [arm_exec_ClassDef]
  refine wpAny_bind (m := evalAll _) (wpAny_of_eq (a := []) rfl ?_)
  refine wpAny_bind (wpAny_standAt ?_)
  refine wpAny_bind (m := buildClassGuard _) ?_
  · refine wpAny_bind (m := nsGet builtinsNs _) (wpAny_nsGet (T'.b.keeps F'.keep) ?_)
    rw [T'.builtins _ (by decide +kernel)]
    refine wpAny_of_eq (a := ()) (by kernel_rfl) ?_
    refine wpAny_bind (wpAny_holding ?_)
    refine wpAny_bind (m := evalArgs _ _ _ _) (ev_args1 ?_ rfl)
    refine nameX_B (cn := Str.ofString "cmp_to_key") (ccd := .ref 106) (a := 107) F' X' (topRead_of T') (v := .type "object") (by kernel_rfl) (by kernel_rfl) (by decide) ?_
    refine wpAny_bind (wpAny_standAt ?_)
    refine wpAny_holding ?_
    have g102 : g'.get? 102 = none := (N' (102, tabObj #[]) (.tail _ (.head _))).2.2
    obtain ⟨bm, ob, q1, q2, q3, q4, q5, q6⟩ := T'.bmain
    have bP : bm ≠ 102 := fun q => by rw [q, g102] at q3; cases q3
    have b2 : bm ≠ mainGlobals := fun q => by
      obtain ⟨o, es, ep, e, r⟩ := T'.g
      rw [q, e] at q3
      cases q3
      rw [r.1] at q6; cases q6
    have q3' := F'.keep _ _ q3
    obtain ⟨mv, hmv⟩ : ∃ mv, mg (Str.ofString "__name__") = some mv := by
      have e : ((nsIn (hK w.params) mainGlobals (Str.ofString "__name__")).bind id).isSome = true := by kernel_rfl
      cases q : nsIn (hK w.params) mainGlobals (Str.ofString "__name__") with
      | none => rw [q] at e; cases e
      | some o => cases o with
        | none => rw [q] at e; cases e
        | some v => exact ⟨v, mg_of X' T'.g q⟩
    have hsm : ∃ o, h'.get? sysModules = some o := let ⟨o, e⟩ := hSM; ⟨o, F'.keep _ _ (FG'.keep _ _ e)⟩
    have hst : h'.get? cStatics = some statObj := F'.keep _ _ (X' cStatics statObj (by kernel_rfl))
    refine bc_start (c := 106) (P := 102) (cell := L' + 1) (bm := bm) (ob := ob) (mg := mg) (mv := mv) ⟨rfl, by k_room, by k_units⟩ (T'.nolimit.keeps F'.keep) hsm rfl (C.keeps fun b o e => F'.keep _ _ (FG'.keep _ _ e)) (N' (102, tabObj #[]) (.tail _ (.head _))).1 hmv rfl hst ⟨rfl, by k_room, by k_units⟩ ⟨rfl, by k_room, by k_units⟩ ?_ (by kernel_rfl) (by k_room) (T'.g.keeps F'.keep) (by decide) (by decide) q1 q2 b2 bP q3' q4 q5 q6
    intro c n' md sl f0 f1 f2 f3 f4 f5 st c0 c1 cc b o0 o1 vs0 vs1 s0 s1 u tm to td d0 d1 x0 x1 tt u1 u2 kt h9 tk9 k9 gP9 gl e0 e1 e2 e3
    have keep9 : ∀ b o, g'.get? b = some o → h9.get? b = some o := fun b o e => k9 _ _ (fun q => by rw [q, g102] at e; cases e) (F'.keep _ _ e)
    have L102 : L' ≠ 102 := (N' (102, tabObj #[]) (.tail _ (.head _))).2.1.symm
    have L102' : L' + 1 ≠ 102 := fun q => by
      have e : h'.get? (L' + 1) = some oc := (N' (L' + 1, oc) (.head _)).1
      have e2 : h'.get? 102 = some (tabObj #[]) := (N' (102, tabObj #[]) (.tail _ (.head _))).1
      rw [q, e2] at e
      have e3 : tabObj #[] = oc := Option.some.inj e
      rw [← e3] at hoc'
      cases hoc'
    have F9 := (⟨(let ⟨o, es, ep, e, r⟩ := F'.ns; ⟨o, es, ep, k9 _ _ L102 e, r⟩), keep9, F'.above⟩ : Fr g' L' h9 _)
    have lift : ∀ p : Addr × Obj, (h9.get? p.1 = some p.2 ∧ h'.get? p.1 = none) → h9.get? p.1 = some p.2 ∧ p.1 ≠ L' ∧ g'.get? p.1 = none := by
      intro p e
      refine ⟨e.1, fun q => ?_, ?_⟩
      · obtain ⟨o, es, ep, e3, r⟩ := F'.ns
        rw [← q, e.2] at e3; cases e3
      · cases q : g'.get? p.1 with
        | none => rfl
        | some o => have e4 := F'.keep _ _ q; rw [e.2] at e4; cases e4
    have N0 : News g' L' h9 news := fun p hp => ⟨k9 _ _ (hlt p hp) (N' p (.tail _ (.tail _ hp))).1, (N' p (.tail _ (.tail _ hp))).2⟩
    have N9 := news_cons (lift _ (gl _ (mem_nth 0 rfl))) (news_cons (lift _ (gl _ (mem_nth 1 rfl))) (news_cons (lift _ (gl _ (mem_nth 2 rfl))) (news_cons (lift _ (gl _ (mem_nth 4 rfl))) (news_cons (lift _ (gl _ (mem_nth 5 rfl))) (news_cons (lift _ (gl _ (mem_nth 6 rfl))) (news_cons (lift _ (gl _ (mem_nth 7 rfl)))
      (news_cons (⟨k9 _ _ L102' (N' (L' + 1, oc) (.head _)).1, (N' (L' + 1, oc) (.head _)).2⟩ : h9.get? (L' + 1) = some oc ∧ L' + 1 ≠ L' ∧ g'.get? (L' + 1) = none) (news_cons (⟨gP9, L102.symm, g102⟩ : h9.get? 102 = _ ∧ 102 ≠ L' ∧ g'.get? 102 = none) N0))))))))
    refine wpAny_bind (m := decorate _ _) (wpAny_of_eq (a := .ref c) (by with_unfolding_all rfl) ?_)
    refine wpAny_bind (wpAny_standAt ?_)
    refine wpAny_bind (m := bindName _ _ _) (wpAny_bindName (storeX_L (cn := Str.ofString "cmp_to_key") (a := 107) (ccd := .ref 106) (cl := cellsFrom (L' + 1) _ []) F9 N9 fun h10 F10 N10 => wpAny_pure ?_))
    show wpAny _ _ _ _ _ { s with heap := h10, toks := tk9 + 1 }
    clear F9 N9 N0 keep9 lift k9 gP9 hst hsm q3' q3 bP b2
    k_steps
    rename News h₀ _ _ (_ :: _ :: _ :: _ :: _ :: _ :: _ :: _ :: _ :: news) => kN
    have fr : ∀ {a : Addr} {o' : Obj} {q : Addr × Obj}, h'.get? a = none → h'.get? q.1 = some o' → q.1 ≠ a := fun e e' x => by rw [x, e] at e'; cases e'
    refine hret c _ _ _ _ (by assumption) (news_perm8 kN) (fun q hq p hp => ?_) (fun p hp => ?_) ⟨_, ⟨n', md, b, sl, f0, f1, f2, f3, f4, f5, st, c0, c1, _, o0, o1, oc, vs0, vs1, s0, s1, u1, u2, kt, tm, to, td, d0, d1, x0, x1, _, tt, _, _, _, _, _, _, _, _, _, _, _, _, _, _, _, _, _, rfl, e0, e1, e2, e3, hoc'⟩, fun p hp => hp⟩
    · have eq := (N' q (.tail _ (.tail _ hq))).1
      simp only [List.mem_cons, List.not_mem_nil, or_false] at hp
      rcases hp with rfl | rfl | rfl | rfl | rfl | rfl | rfl | rfl
      · exact fr (gl _ (mem_nth 0 rfl)).2 eq
      · exact fr (gl _ (mem_nth 1 rfl)).2 eq
      · exact fr (gl _ (mem_nth 2 rfl)).2 eq
      · exact fr (gl _ (mem_nth 4 rfl)).2 eq
      · exact fr (gl _ (mem_nth 5 rfl)).2 eq
      · exact fr (gl _ (mem_nth 6 rfl)).2 eq
      · exact fr (gl _ (mem_nth 7 rfl)).2 eq
      · exact Nat.ne_of_lt (Nat.lt_succ_of_lt (allLt_all' l1.2 q hq))
    · have eq := (N' (102, tabObj #[]) (.tail _ (.head _))).1
      simp only [List.mem_cons, List.not_mem_nil, or_false] at hp
      rcases hp with rfl | rfl | rfl | rfl | rfl | rfl | rfl | rfl
      · exact (fr (gl _ (mem_nth 0 rfl)).2 eq).symm
      · exact (fr (gl _ (mem_nth 1 rfl)).2 eq).symm
      · exact (fr (gl _ (mem_nth 2 rfl)).2 eq).symm
      · exact (fr (gl _ (mem_nth 4 rfl)).2 eq).symm
      · exact (fr (gl _ (mem_nth 5 rfl)).2 eq).symm
      · exact (fr (gl _ (mem_nth 6 rfl)).2 eq).symm
      · exact (fr (gl _ (mem_nth 7 rfl)).2 eq).symm
      · exact L102'
end SK1
section SK2
open PySem PySem.W PyProof.Rows PySem.Calls
set_option Elab.async false
set_option maxRecDepth 100000
set_option maxHeartbeats 0
section
variable {K : Frag} {w : World} {c n' md b f0 f1 sl f2 f3 f4 f5 st : Addr} {u1 u2 kt tm to td : Tok} {tt : Nat → Tok} {o0 o1 : Obj}
theorem kf_find (hC : K.lookup c = some (clsD c n' b kt (tt 14))) (hN : K.lookup n' = some (nsC w.params tt u1 u2 to td sl f0 f1 f2 f3 f4 f5 st md)) {name : Str} {r : Option (Option Value)} (h : (match nsIn [(0, nsC w.params tt u1 u2 to td sl f0 f1 f2 f3 f4 f5 st md)] 0 name with | some (some v) => some (some v) | some none => alongIn [] name [.type "object"] | none => none) = r) : findIn K (.ref c) name = r := by
  unfold findIn
  dsimp only
  rw [hC]
  show alongIn K name [.ref c, .type "object"] = r
  unfold alongIn ownIn
  dsimp only
  rw [hC]
  show (match nsIn K n' name with | some (some v) => some (some v) | some none => alongIn K name [.type "object"] | none => none) = r
  have e : nsIn K n' name = nsIn [(0, nsC w.params tt u1 u2 to td sl f0 f1 f2 f3 f4 f5 st md)] 0 name := by
    unfold nsIn
    rw [hN]
    rfl
  rw [e]
  exact h
theorem kf_cls (hC : K.lookup c = some (clsD c n' b kt (tt 14))) : clsIn K c = some (ClassData.mk (Str.ofString "K") [.type "object"] [.ref c, .type "object"] n' QN false [Str.ofString "obj"] [] false none false) := by
  unfold clsIn; rw [hC]
theorem kf_type {a : Addr} {o : Obj} (h : K.lookup a = some o) : typeIn K (.ref a) = some o.cls := by
  show (K.lookup a).map (·.cls) = _
  rw [h]; rfl
theorem kf_makes (hC : K.lookup c = some (clsD c n' b kt (tt 14))) : makesIn K c = true := by
  unfold makesIn
  rw [hC]
  have e1 : specialIn K (.ref c) "__call__" = some (some (.builtin "type.__call__")) := by
    unfold specialIn
    rw [kf_type hC]
    show findIn K (.type "type") "__call__" = _
    kernel_rfl
  have e2 : instIn K (.ref c) (.type "type") = some true := by
    unfold instIn
    rw [kf_type hC]
    show subIn K (.type "type") (.type "type") = _
    kernel_rfl
  simp only [e1, e2]
  simp
theorem kf_only (hC : K.lookup c = some (clsD c n' b kt (tt 14))) : plainOver K c = true := by
  unfold plainOver
  rw [kf_cls hC]
  kernel_rfl
theorem kf_mdget (hM : K.lookup md = some (kmd c tm)) : specialIn K (.ref md) "__get__" = some (some (.builtin "member_descriptor.__get__")) := by
  unfold specialIn
  rw [kf_type hM]
  show findIn K (.type "member_descriptor") "__get__" = _
  kernel_rfl
theorem kf_mdtakes (hM : K.lookup md = some (kmd c tm)) : takesIn K (.ref md) = some true := by
  unfold takesIn
  have e : specialIn K (.ref md) "__set__" = some (some (.builtin "member_descriptor.__set__")) := by
    unfold specialIn
    rw [kf_type hM]
    show findIn K (.type "member_descriptor") "__set__" = _
    kernel_rfl
  rw [e]
theorem kf_slot (hC : K.lookup c = some (clsD c n' b kt (tt 14))) (hM : K.lookup md = some (kmd c tm)) : slotIn K md c = some 0 := by
  unfold slotIn recIn
  rw [hM, kf_cls hC]
  simp
theorem kf_obj (hC : K.lookup c = some (clsD c n' b kt (tt 14))) (hN : K.lookup n' = some (nsC w.params tt u1 u2 to td sl f0 f1 f2 f3 f4 f5 st md)) : findIn K (.ref c) (Str.ofString "obj") = some (some (.ref md)) := kf_find hC hN (by kernel_rfl)
theorem kf_init (hC : K.lookup c = some (clsD c n' b kt (tt 14))) (hN : K.lookup n' = some (nsC w.params tt u1 u2 to td sl f0 f1 f2 f3 f4 f5 st md)) : findIn K (.ref c) "__init__" = some (some (.ref f0)) := kf_find hC hN (by kernel_rfl)
theorem kf_lt (hC : K.lookup c = some (clsD c n' b kt (tt 14))) (hN : K.lookup n' = some (nsC w.params tt u1 u2 to td sl f0 f1 f2 f3 f4 f5 st md)) : findIn K (.ref c) "__lt__" = some (some (.ref f1)) := kf_find hC hN (by kernel_rfl)
theorem kf_set (hC : K.lookup c = some (clsD c n' b kt (tt 14))) (hN : K.lookup n' = some (nsC w.params tt u1 u2 to td sl f0 f1 f2 f3 f4 f5 st md)) : findIn K (.ref c) "__setattr__" = some (some (.builtin "object.__setattr__")) := kf_find hC hN (by kernel_rfl)
theorem kf_plain (hC : K.lookup c = some (clsD c n' b kt (tt 14))) (hN : K.lookup n' = some (nsC w.params tt u1 u2 to td sl f0 f1 f2 f3 f4 f5 st md)) (name : Str) : plainGet K c name = true := by
  unfold plainGet
  rw [kf_find hC hN (name := "__getattribute__") (r := some (some (.builtin "object.__getattribute__"))) (by kernel_rfl), kf_find hC hN (name := "__getattr__") (r := some none) (by kernel_rfl)]
  simp
theorem kf_taker (hC : K.lookup c = some (clsD c n' b kt (tt 14))) (hN : K.lookup n' = some (nsC w.params tt u1 u2 to td sl f0 f1 f2 f3 f4 f5 st md)) (hM : K.lookup md = some (kmd c tm)) : takerIn K c (Str.ofString "obj") = some (some (.ref md)) := by
  unfold takerIn
  rw [kf_obj hC hN, Option.bind_some]
  show (takesIn K (.ref md)).map _ = _
  rw [kf_mdtakes hM]
  rfl
end
/-- the class's objects as a written part of the heap -/
theorem kf_in {h : Heap} {c n' md f0 f1 : Addr} {oC oN oM o0 o1 : Obj} (e1 : h.get? c = some oC) (e2 : h.get? n' = some oN) (e3 : h.get? md = some oM) (e4 : h.get? f0 = some o0) (e5 : h.get? f1 = some o1)
    (h1 : oN.cls ≠ oC.cls) (h2 : oM.cls ≠ oC.cls) (h3 : oM.cls ≠ oN.cls) (h4 : o0.cls ≠ oC.cls) (h5 : o0.cls ≠ oN.cls) (h6 : o0.cls ≠ oM.cls) (h7 : o1.cls ≠ oC.cls) (h8 : o1.cls ≠ oN.cls) (h9 : o1.cls ≠ oM.cls) :
    ∃ K : Frag, K.In h ∧ K.lookup c = some oC ∧ K.lookup n' = some oN ∧ K.lookup md = some oM ∧ K.lookup f0 = some o0 ∧ K.lookup f1 = some o1 := by
  have ne : ∀ {a b : Addr} {o o' : Obj}, h.get? a = some o → h.get? b = some o' → o.cls ≠ o'.cls → (a == b) = false := fun e e' q => by
    rw [beq_eq_false_iff_ne]
    intro r
    rw [r, e'] at e
    cases e
    exact q rfl
  have in1 : ∀ {a : Addr} {o : Obj} {K : Frag}, h.get? a = some o → Frag.In K h → Frag.In ((a, o) :: K) h := fun {a o K} e k b o' q => by
    unfold List.lookup at q
    split at q
    · rename_i z; cases q; rw [beq_iff_eq.mp z]; exact e
    · exact k _ _ q
  refine ⟨[(c, oC), (n', oN), (md, oM), (f0, o0), (f1, o1)], in1 e1 (in1 e2 (in1 e3 (in1 e4 (in1 e5 fun _ _ q => nomatch q)))), ?_, ?_, ?_, ?_, ?_⟩
  · simp [List.lookup]
  · simp [List.lookup, ne e2 e1 h1]
  · simp [List.lookup, ne e3 e1 h2, ne e3 e2 h3]
  · simp [List.lookup, ne e4 e1 h4, ne e4 e2 h5, ne e4 e3 h6]
  · by_cases q : f1 = f0
    · subst q; rw [e4] at e5; cases e5; simp [List.lookup, ne e4 e1 h4, ne e4 e2 h5, ne e4 e3 h6]
    · simp [List.lookup, ne e5 e1 h7, ne e5 e2 h8, ne e5 e3 h9, (beq_eq_false_iff_ne.mpr q : (f1 == f0) = false)]
end SK2
section SK3
open PySem PySem.W PyProof.Rows PySem.Calls
set_option Elab.async false
set_option maxRecDepth 100000
set_option maxHeartbeats 0
noncomputable abbrev kinst (c dx : Addr) (v : Value) : Obj := { cls := .ref c, dict := some dx, data := .plain, slots := #[some v] }
theorem kset_slot {prog : Program} {w : World} {A : Around} {E : Value → Shared → Prop} {s : Shared} {K : Frag} {x C L p : Addr} {h₀ : Heap} {m : Str → Option Value} {post : Led} {ox ox' : Obj} {od : Option Obj} {name : Str} {v : Value} {i : Nat} {Q : Unit → Shared → Prop} (F : Fr h₀ L s.heap m) (X : K.In s.heap) (N : News h₀ L s.heap ((x, ox) :: post)) (I : InstAt s.heap x ox C od)
    (hs : findIn K (.ref C) "__setattr__" = some (some (.builtin "object.__setattr__"))) (hp : plainOver K C = true) (ht : takerIn K C name = some (some (.ref p))) (hT : typeIn K (.ref p) = some (.type "member_descriptor")) (hi : slotIn K p C = some i) (hz : i < 1000)
    (e : { ox with slots := (ox.slots ++ Array.replicate (i + 1 - ox.slots.size) none).setIfInBounds i (some v) } = ox') (hf : ox'.isFreed = false) (hne : ∀ p ∈ post, p.1 ≠ x)
    (h : ∀ h', Fr h₀ L h' m → News h₀ L h' ((x, ox') :: post) → Q () { s with heap := h', toks := s.toks + 1 }) : wpAny (model prog w) A (setAttr (.ref x) name v) Q E s :=
  set_plain X I hs (osa_descr (s := { s with toks := s.toks + 1 }) KF.slot_mset X I hp ht hT (slot_set (pre := []) (s := { s with toks := s.toks + 1 }) F N X I hi hz (fun _ h => nomatch h) hne e hf fun h' F' N' => h h' F' N'))
theorem t_kinst (w : World) (mean mg mb) (c r : Addr) : Ct 100 w mean mg mb (.ref c) [.ref r] [] (fun news => KAt w news c) (fun news v => ∃ x dx, v = .ref x ∧ (x, kinst c dx (.ref r)) ∈ news ∧ (dx, emptyDict) ∈ news) := by
  w_top off
  unfold Ct PG; k_fill
  intro dp un gd cn cs a ccd cl outer A₀ base h₀ L m news s Q E B F X N T hk hdp hun hpre hret
  refine wpAny_call ?_
  obtain ⟨l, ⟨n', md, b, sl, f0, f1, f2, f3, f4, f5, st, c0, c1, cell, o0, o1, oc, vs0, vs1, s0, s1, u1, u2, kt, tm, to, td, d0, d1, x0, x1, pm, tt, a1, b1, a2, b2, q0, q1, q2, q3, q4, q5, q6, q7, q8, r0, r1, r2, r3, rfl, e0, e1, e2, e3, e4⟩, hl⟩ := hpre
  have m0 := hl _ (mem_nth 0 rfl)
  have m1 := hl _ (mem_nth 1 rfl)
  have m2 := hl _ (mem_nth 2 rfl)
  have m3 := hl _ (mem_nth 3 rfl)
  have m5 := hl _ (mem_nth 5 rfl)
  have m6 := hl _ (mem_nth 6 rfl)
  obtain ⟨K, KI, kC, kN, kM, k0, k1⟩ := kf_in (N _ m0).1 (N _ m1).1 (N _ m2).1 (N _ m5).1 (N _ m3).1 (by show Value.type _ ≠ Value.type _; decide) (by show Value.type _ ≠ Value.type _; decide) (by show Value.type _ ≠ Value.type _; decide) (by show Value.type _ ≠ Value.type _; decide) (by show Value.type _ ≠ Value.type _; decide) (by show Value.type _ ≠ Value.type _; decide) (by show Value.type _ ≠ Value.type _; decide) (by show Value.type _ ≠ Value.type _; decide) (by show Value.type _ ≠ Value.type _; decide)
  refine make_K F N KI (kf_makes kC) (kf_init kC kN) (kf_type k0) fun x dx h1 F1 N1 l1 l2 => ?_
  k_dflt ((refine' code_nest (by k_asm) (by k_asm) (by k_asm) (by k_asm) (by k_asm) (by exact rfl) (by exact rfl) (by assumption) (by k_mem) (by exact codeRec_news (by k_asm) (by k_mem) (by assumption) (by assumption)) (by k_room) (by exact BindsTo.of_eq rfl) (by exact locs rfl) ?_ (by exact rfl) (by exact rfl) (by exact rfl) (by decide); k_whole; intro g' L' h' FG' F' N' B' X' T'; (try dsimp only); (try k_lift B'); (try k_fold)))
  dsimp only [initBody]
  k_steps
  obtain ⟨K2, KI2, kC2, kN2, kM2, k02, k12⟩ := kf_in (N' _ (.tail _ (.tail _ m0))).1 (N' _ (.tail _ (.tail _ m1))).1 (N' _ (.tail _ (.tail _ m2))).1 (N' _ (.tail _ (.tail _ m5))).1 (N' _ (.tail _ (.tail _ m3))).1 (by show Value.type _ ≠ Value.type _; decide) (by show Value.type _ ≠ Value.type _; decide) (by show Value.type _ ≠ Value.type _; decide) (by show Value.type _ ≠ Value.type _; decide) (by show Value.type _ ≠ Value.type _; decide) (by show Value.type _ ≠ Value.type _; decide) (by show Value.type _ ≠ Value.type _; decide) (by show Value.type _ ≠ Value.type _; decide) (by show Value.type _ ≠ Value.type _; decide)
  have gx := (N' (x, instObj c dx) (.head _)).1
  have gd := (N' (dx, emptyDict) (.tail _ (.head _))).1
  refine kset_slot (od := some emptyDict) (ox' := kinst c dx (.ref r)) F' KI2 N' ⟨gx, rfl, rfl, gd⟩ (kf_set kC2 kN2) (kf_only kC2) (kf_taker kC2 kN2 kM2) (kf_type kM2) (kf_slot kC2 kM2) (by decide) rfl rfl (fun p hp => ?_) fun h2 F2 N2 => ?_
  · rcases List.mem_cons.mp hp with rfl | hp
    · exact Nat.ne_of_lt l2
    · exact Nat.ne_of_lt (Nat.lt_trans (l1 _ hp) l2)
  clear F' N' N1 F1
  show wpAny _ _ _ _ _ { s with heap := h2, toks := _ }
  k_steps
  exact hret _ [(x, kinst c dx (.ref r)), (dx, emptyDict)] _ _ (by assumption) (News.swap (by assumption)) (Over.cons (fun q hq => Nat.ne_of_lt (Nat.lt_trans (l1 _ hq) l2)) (Over.cons (fun q hq => Nat.ne_of_lt (l1 _ hq)) Over.nil)) ⟨x, dx, rfl, List.mem_append_right _ (.head _), List.mem_append_right _ (.tail _ (.head _))⟩
end SK3
section SK4
local macro_rules | `(tactic| walk_at "none") => `(tactic| skip)
open PySem PySem.W PyProof.Rows PySem.Calls
set_option Elab.async false
set_option maxRecDepth 100000
set_option maxHeartbeats 0
theorem kget_slot {prog : Program} {w : World} {A : Around} {E : Value → Shared → Prop} {s : Shared} {K : Frag} {x C p : Addr} {ox od : Obj} {name : Str} {v : Value} {i : Nat} {expr : Bool} {Q : Value → Shared → Prop} (X : K.In s.heap) (I : InstAt s.heap x ox C (some od)) (hg : plainGet K C name = true) (hc : isClsIn K C = true)
    (ha : findIn K (.ref C) name = some (some (.ref p))) (hn : specialIn K (.ref p) "__get__" = some (some (.builtin "member_descriptor.__get__"))) (ht : takesIn K (.ref p) = some true) (hp : slotIn K p C = some i)
    (hv : (ox.slots[i]?).join = some v) (hh : handedIn v = true) (h : Q v { s with toks := s.toks + 1 }) : wpAny (model prog w) A (getAttr (.ref x) name expr) Q E s :=
  get_bind X I (plainGet_of hg).1 (findObj_data hc ha hn ht) (plainGet_of hg).2 (wpAny_call (slot_get (s := { s with toks := s.toks + 1 }) X I hp hv (handed_on hh h)))
/-- self.obj of one of the class's instances -/
theorem kget_obj {prog : Program} {w : World} {A : Around} {E : Value → Shared → Prop} {s : Shared} {h₀ : Heap} {L : Addr} {news : Led} {x c dx : Addr} {v : Value} {expr : Bool} {Q : Value → Shared → Prop} (N : News h₀ L s.heap news) (hK : KAt w news c) (hx : (x, kinst c dx v) ∈ news) (hd : (dx, emptyDict) ∈ news) (hh : handedIn v = true) (h : Q v { s with toks := s.toks + 1 }) :
    wpAny (model prog w) A (getAttr (.ref x) (sN "obj") expr) Q E s := by
  obtain ⟨l, ⟨n', md, b, sl, f0, f1, f2, f3, f4, f5, st, c0, c1, cell, o0, o1, oc, vs0, vs1, s0, s1, u1, u2, kt, tm, to, td, d0, d1, x0, x1, pm, tt, a1, b1, a2, b2, q0, q1, q2, q3, q4, q5, q6, q7, q8, r0, r1, r2, r3, rfl, e0, e1, e2, e3, e4⟩, hl⟩ := hK
  obtain ⟨K, KI, kC, kN, kM, k0, k1⟩ := kf_in (N _ (hl _ (mem_nth 0 rfl))).1 (N _ (hl _ (mem_nth 1 rfl))).1 (N _ (hl _ (mem_nth 2 rfl))).1 (N _ (hl _ (mem_nth 5 rfl))).1 (N _ (hl _ (mem_nth 3 rfl))).1 (by show Value.type _ ≠ Value.type _; decide) (by show Value.type _ ≠ Value.type _; decide) (by show Value.type _ ≠ Value.type _; decide) (by show Value.type _ ≠ Value.type _; decide) (by show Value.type _ ≠ Value.type _; decide) (by show Value.type _ ≠ Value.type _; decide) (by show Value.type _ ≠ Value.type _; decide) (by show Value.type _ ≠ Value.type _; decide) (by show Value.type _ ≠ Value.type _; decide)
  exact kget_slot (od := emptyDict) KI ⟨(N _ hx).1, rfl, rfl, (N _ hd).1⟩ (kf_plain kC kN _) (by unfold isClsIn; rw [kf_cls kC]; rfl) (kf_obj kC kN) (kf_mdget kM) (kf_mdtakes kM) (kf_slot kC kM) rfl hh h
local macro_rules | `(tactic| ktr_member) => `(tactic| assumption)
set_option hygiene false in
local macro_rules | `(tactic| walk_at "getAttr ref") => `(tactic| ((with_reducible show wpAny _ _ (getAttr (Value.ref _) (sN "obj") _) _ _ _); k_dflt (refine' kget_obj (by k_asm) hKn (by exact List.Mem.tail _ (by assumption)) (by exact List.Mem.tail _ (by assumption)) (by exact rfl) ?_)))
theorem t_klt {sx sy : Str} (hlx : (Txt.slice sx (some 8) none).length < 100) (hly : (Txt.slice sy (some 8) none).length < 100) (hax : (Txt.slice sx (some 8) none).cps.all (· < 128) = true) (hay : (Txt.slice sy (some 8) none).cps.all (· < 128) = true) (hsx : sx.length ≤ sizeLine) (hsy : sy.length ≤ sizeLine)
    (hn : 1 ≤ min (Txt.slice sx (some 8) none).cps.size (Txt.slice sy (some 8) none).cps.size) (hpx : ∀ (i : Nat) c, (Txt.slice sx (some 8) none).cps[i]? = some c → 0 ≤ placeOf c) (hpy : ∀ (i : Nat) c, (Txt.slice sy (some 8) none).cps[i]? = some c → 0 ≤ placeOf c)
    (w : World) (mean mg mb) (c x y dx dy rx ry : Addr) (itsx itsy : List Value) (dvx dvy : Value) (tx ty : Tok)
    (dp un : Nat) (gd : Option (List Code)) (cn : Str) (cs : Scope) (a : Addr) (ccd : Value) (cl : List (Str × Addr)) (outer : List Env) (A₀ : Around) (base h₀ : Heap) (L : Addr) (m : Str → Option Value) (ps : Array Value) (news : Led) (s : Shared) (Q : Bool → Shared → Prop) (E : Value → Shared → Prop)
    (B : Below A₀ base outer h₀) (F : Fr h₀ L s.heap m) (X : (hK w.params).In h₀) (N : News h₀ L s.heap ((130, tabObj ps) :: news)) (T : Top VW LS mean mg mb h₀) (C : CodeHd h₀ 134 130) (hk : cs.kind = .function) (hdp : dp + 200 < 1000) (hun : un + 8 * 200 < 9900) (hlt : ∀ p ∈ news, p.1 ≠ 130) (hI : TabInv ps news)
    (hK : KAt w news c) (hx : (x, kinst c dx (.ref rx)) ∈ news) (hdx : (dx, emptyDict) ∈ news) (hy : (y, kinst c dy (.ref ry)) ∈ news) (hdy : (dy, emptyDict) ∈ news) (hEx : EntAt w news (.ref rx) itsx dvx [.str sx tx]) (hEy : EntAt w news (.ref ry) itsy dvy [.str sy ty])
    (hret : ∀ ps' tl h' tk', Fr h₀ L h' m → News h₀ L h' ((130, tabObj ps') :: (news ++ tl)) → Over news tl → (∀ p ∈ tl, p.1 ≠ 130) → TabInv ps' (news ++ tl) → Q (decide (turnVal (Txt.slice sx (some 8) none) (Txt.slice sy (some 8) none) < 0)) { s with heap := h', toks := tk' }) :
    wpAny (model PG w) (ktrTop dp un gd cn cs L a ccd cl outer) (keyLt' oneType' (.ref x) (.ref y)) Q E s := by
  w_top off
  have hK' := hK
  obtain ⟨l, ⟨n', md, b, sl, f0, f1, f2, f3, f4, f5, st, c0, c1, cell, o0, o1, oc, vs0, vs1, s0, s1, u1, u2, kt, tm, to, td, d0, d1, x0, x1, pm, tt, a1, b1, a2, b2, q0, q1, q2, q3, q4, q5, q6, q7, q8, r0, r1, r2, r3, rfl, e0, e1, e2, e3, e4⟩, hl⟩ := hK
  have m3 := hl _ (mem_nth 3 rfl)
  have m4 := hl _ (mem_nth 4 rfl)
  have m7 := hl _ (mem_nth 7 rfl)
  have N0 : News h₀ L s.heap news := fun p hp => N p (.tail _ hp)
  obtain ⟨K, KI, kC, kN, kM, k0, k1⟩ := kf_in (N0 _ (hl _ (mem_nth 0 rfl))).1 (N0 _ (hl _ (mem_nth 1 rfl))).1 (N0 _ (hl _ (mem_nth 2 rfl))).1 (N0 _ (hl _ (mem_nth 5 rfl))).1 (N0 _ (hl _ (mem_nth 3 rfl))).1 (by show Value.type _ ≠ Value.type _; decide) (by show Value.type _ ≠ Value.type _; decide) (by show Value.type _ ≠ Value.type _; decide) (by show Value.type _ ≠ Value.type _; decide) (by show Value.type _ ≠ Value.type _; decide) (by show Value.type _ ≠ Value.type _; decide) (by show Value.type _ ≠ Value.type _; decide) (by show Value.type _ ≠ Value.type _; decide) (by show Value.type _ ≠ Value.type _; decide)
  rw [keyLt'_oneType, oneLt'_eq]
  simp only [if_true]
  refine wpAny_bind (wpAny_cRoomFor (by k_units) ?_)
  refine wpAny_bind (ifBound_K (od := some emptyDict) KI ⟨(N0 _ hx).1, rfl, rfl, (N0 _ hdx).1⟩ (kf_lt kC kN) (by unfold isFn; rw [kf_type k1]; rfl) (wpAny_mono (Q := W.BoolBack Q) ?_ ?_ fun _ _ e => e))
  case refine_2 =>
    intro v s' hv
    cases v <;> first | exact hv.elim | skip
    exact wpAny_truthy_bool hv
  clear N0 KI kC kN kM k0 k1
  revert X T C
  unfold PG; k_fill
  intro X T C
  refine wpAny_call ?_
  have hKn : KAt w ((130, tabObj ps) :: news) c := hK'.mono fun p hp => .tail _ hp
  k_dflt ((refine' code_nest (by k_asm) (by k_asm) (by k_asm) (by k_asm) (by k_asm) (by exact rfl) (by exact rfl) (by assumption) (by exact .tail _ m3) (by exact codeRec_news (by k_asm) (.tail _ m4) (by assumption) (by assumption)) (by k_room) (by exact BindsTo.of_eq rfl) (by exact locs rfl) ?_ (by exact rfl) (by exact rfl) (by exact rfl) (by decide); k_whole; intro g' L' h' FG' F' N' B' X' T'; (try dsimp only); (try k_lift B'); (try k_fold)))
  dsimp only [ltBody, kSc2]
  have hstop := True.intro
  k_steps
  (k_dflt (refine' t_turn hlx hly hax hay hsx hsy hn hpx hpy w mean mg mb rx ry itsx itsy dvx dvy tx ty _ _ _ _ _ _ _ _ _ _ _ _ _ _ _ _ _ _ _ (by k_asm) (by k_asm) (by k_asm) (by k_asm) (by k_asm) (by exact CodeHd.keeps C (Fr.keep (by assumption))) (by k_dflt rfl) (by k_room) (by k_units) hlt hI ⟨hEx, hEy⟩ ?_); intro r9 ps9 tl9 h9 tk9 F9 N9 O9 P9 I9 o9; obtain ⟨t9, rfl⟩ := o9)
  k_steps
  exact hret _ _ _ _ (by assumption) (by assumption) O9 P9 I9
end SK4
section SC5
local macro_rules | `(tactic| walk_at "none") => `(tactic| skip)
local macro_rules | `(tactic| walk_at "none") => `(tactic| skip)
local macro_rules | `(tactic| walk_at "none") => `(tactic| skip)
open PySem PySem.W PyProof.Rows PySem.Calls
set_option Elab.async false
set_option maxRecDepth 100000
set_option maxHeartbeats 0
section
variable {prog : Program} {w : World} {A : Around} {E : Value → Shared → Prop} {s : Shared} {h₀ : Heap} {L : Addr} {m : Str → Option Value} {news : List (Addr × Obj)} {Q : Value → Shared → Prop}
/-- one of four lists -/
theorem k_menu {a a0 a1 a2 a3 : Addr} {u : Tok} {n : Nat} {i : Int} {value slice : Expr} (N : News h₀ L s.heap news) (hm : (a, listOf #[.ref a0, .ref a1, .ref a2, .ref a3] n) ∈ news) (h0 : 0 ≤ i) (h1 : i < 4)
    (h : ∀ b, ((i = 0 ∧ b = a0) ∨ (i = 1 ∧ b = a1) ∨ (i = 2 ∧ b = a2) ∨ (i = 3 ∧ b = a3)) → Q (.ref b) s)
    (hs : subscripted slice false (.ref a) (.int i u) = operate [.ref a, .int i u] (getItem (.ref a) (.int i u)) := by with_unfolding_all rfl) (hg : ∀ r, letTemporaryGo value (.ref a) r = pure () := by intro _; with_unfolding_all rfl) :
    wpAny (model prog w) A (subscriptTail value slice (.ref a) (.int i u)) Q E s := by
  rcases (show i = 0 ∨ i = 1 ∨ i = 2 ∨ i = 3 by omega) with rfl | rfl | rfl | rfl
  · exact kim_list (l := [.ref a0, .ref a1, .ref a2, .ref a3]) N hm rfl rfl (by decide) (by decide) rfl (h a0 (by simp)) hs hg
  · exact kim_list (l := [.ref a0, .ref a1, .ref a2, .ref a3]) N hm rfl rfl (by decide) (by decide) rfl (h a1 (by simp)) hs hg
  · exact kim_list (l := [.ref a0, .ref a1, .ref a2, .ref a3]) N hm rfl rfl (by decide) (by decide) rfl (h a2 (by simp)) hs hg
  · exact kim_list (l := [.ref a0, .ref a1, .ref a2, .ref a3]) N hm rfl rfl (by decide) (by decide) rfl (h a3 (by simp)) hs hg
end
theorem mod4 (x : Int) : 0 ≤ x.fmod 4 ∧ x.fmod 4 < 4 := by rw [Int.fmod_eq_emod_of_nonneg _ (by decide)]; omega
theorem pow4_ne (k : Nat) : (4 : Int) ^ k ≠ 0 := Int.pow_ne_zero (by decide)
theorem pow4_log {k : Nat} (h : k < 4) : ((4 : Int) ^ k).natAbs.log2 < 9000 := by
  rcases (show k = 0 ∨ k = 1 ∨ k = 2 ∨ k = 3 by omega) with rfl | rfl | rfl | rfl <;> decide
noncomputable def rowOf (x : Int) : List Int := (rangeKs 0 (1 + (x.fdiv 20).fmod 4 - 0).toNat).map (fun k' => [0, 3, 255, 65].getD (((x.fdiv 80).fdiv (4 ^ k'.toNat)).fmod 4).toNat 0)
noncomputable def agsOf (i : Int) : List Str := if i = 0 then ["*", "fig", "*"] else if i = 1 then ["*", "plum"] else if i = 2 then ["plum", "fig", "*"] else ["fig"]
noncomputable def delOf (x : Int) : Option Int := if 0 < (x.fdiv 4).fmod 5 then some ((x.fdiv 4).fmod 5 - 1) else none
noncomputable def DelIs (v : Value) : Option Int → Prop
  | none => v = .none
  | some d => ∃ t, v = .int d t
/-- a drawn list in the ledger -/
inductive DrAt (news : Led) (v : Value) (ags : List Str) (dl : Option Int) (row : List Int) : Prop
  | mk (l la lr : Addr) (k ka kr : Nat) (dv : Value) (itsA itsR : List Value) (e : v = .ref l) (hl : (l, listOf #[.ref la, dv, .ref lr] k) ∈ news) (ha : (la, listOf itsA.toArray ka) ∈ news) (hA : StrsAre itsA ags) (hD : DelIs dv dl) (hr : (lr, listOf itsR.toArray kr) ∈ news) (hR : IntsAre itsR row) : DrAt news v ags dl row
set_option hygiene false in
local macro_rules | `(tactic| walk_at "binaryOp Pow int int") => `(tactic| ((with_reducible refine pow_int_small (by (repeat (rename _ ∧ _ => hc8; clear hc8)); omega) (by (repeat (rename _ ∧ _ => hc8; clear hc8)); omega) (by decide) ?_)))
set_option hygiene false in
local macro_rules | `(tactic| walk_at "binaryOp FloorDiv int int") => `(tactic| (k_dflt (refine floordiv_int (pow4_ne _) ?_ (Or.inl (PyProof.noPylong_of_log2 (pow4_log (by (repeat (rename _ ∧ _ => hc8; clear hc8)); have hm9 := mod4 (x.fdiv 20); omega)))))))
theorem t_drawn (w : World) (mean mg mb) (x : Int) (tk : Tok) (base0 : Led) : Ct 50 w mean mg mb (.ref 121) [.int x tk] [] (fun news => news = base0) (fun news r => ∃ tl, news = base0 ++ tl ∧ DrAt tl r (agsOf (x.fmod 4)) (delOf x) (rowOf x)) := by
  w_top off
  unfold Ct PG; k_fill
  intro dp un gd cn cs a ccd cl outer A₀ base h₀ L m news s Q E B F X N T hk hdp hun hpre hret
  subst hpre
  refine wpAny_call ?_
  k_dflt ((refine' code_defC (by k_asm) (by k_asm) (by k_asm) (by k_asm) (by k_asm) (by exact rfl) (by exact rfl) (by assumption) (by k_is) (by k_is) (by k_room) (by first | exact BindsTo.of_eq rfl | exact binds_K (by k_in) rfl (by k_is) rfl rfl rfl | fail "k_enter: no rule for these arguments") (by exact rfl) (by decide +kernel) ?_ (by exact rfl) (by exact rfl) (by exact rfl); k_whole; intro g' L' h' tk' cells' FG' F' N' Y' B' X' T' l1; (try k_lt l1); k_cells Y'; (try simp only [List.cons_append, List.nil_append] at N'); (try dsimp only); (try k_lift B'); (try k_fold)))
  k_steps
  ((with_reducible show wpAny _ _ (subscriptTail _ _ (Value.ref _) (Value.int _ _)) _ _ _); k_dflt (refine' k_menu (by k_asm) (by k_mem) (by exact (mod4 _).1) (by exact (mod4 _).2) ?_); intro b9 hb9)
  k_steps
  · have hdl : delOf x = some ((x.fdiv 4).fmod 5 - 1) := if_pos (by assumption)
    repeat (rename _ ∧ _ => hc9; obtain ⟨_, _⟩ := hc9)
    k_dflt (refine hret _ [_, _, _, _, _, _, _, _] _ _ (by k_asm) (News.swap (by k_asm)) ?ov ?out)
    case ov => repeat (first | exact Over.nil | (refine Over.cons ?_ ?_; · k_dflt k_all))
    case out =>
      rw [hdl]
      rcases hb9 with ⟨e9, e8⟩ | ⟨e9, e8⟩ | ⟨e9, e8⟩ | ⟨e9, e8⟩ <;> rw [e9, e8] <;>
        k_dflt (exact ⟨_, rfl, _, _, _, _, _, _, _, _, _, rfl, by k_mem, by k_mem, by first | exact .cons _ _ (.cons _ _ (.cons _ _ .nil)) | exact .cons _ _ (.cons _ _ .nil) | exact .cons _ _ .nil, ⟨_, rfl⟩, by k_mem, by assumption⟩)
  · have hdl : delOf x = none := if_neg (by assumption)
    repeat (rename _ ∧ _ => hc9; obtain ⟨_, _⟩ := hc9)
    k_dflt (refine hret _ [_, _, _, _, _, _, _, _] _ _ (by k_asm) (News.swap (by k_asm)) ?ov ?out)
    case ov => repeat (first | exact Over.nil | (refine Over.cons ?_ ?_; · k_dflt k_all))
    case out =>
      rw [hdl]
      rcases hb9 with ⟨e9, e8⟩ | ⟨e9, e8⟩ | ⟨e9, e8⟩ | ⟨e9, e8⟩ <;> rw [e9, e8] <;>
        k_dflt (exact ⟨_, rfl, _, _, _, _, _, _, _, _, _, rfl, by k_mem, by k_mem, by first | exact .cons _ _ (.cons _ _ (.cons _ _ .nil)) | exact .cons _ _ (.cons _ _ .nil) | exact .cons _ _ .nil, rfl, by k_mem, by assumption⟩)
end SC5
section SS3
open PySem PySem.W PyProof.Rows PySem.Calls
set_option Elab.async false
set_option maxRecDepth 100000
set_option maxHeartbeats 0
/-- what a number of the script draws -/
structure Dr where
  ags : List Str
  dl : Option Int
  row : List Int
noncomputable def noDr : Dr := ⟨[], none, []⟩
/-- a record as it was made of d -/
inductive RecAt (w : World) (news : Led) (v : Value) (d : Dr) : Prop
  | mk (x : Addr) (its : List Value) (dv : Value) (t : Tok) (e : v = .ref x) (hE : EntAt w news (.ref x) its dv [.str (lineOf d.row) t]) (hA : StrsAre its d.ags) (hD : DelIs dv d.dl) : RecAt w news v d
theorem EntAt.mono {w : World} {news news' : Led} {v dv : Value} {its ls : List Value} (h : EntAt w news v its dv ls) (hs : ∀ p ∈ news, p ∈ news') : EntAt w news' v its dv ls :=
  let ⟨x, d, l1, l2, k1, k2, t1, t2, t3, t4, e, a, b, c, f⟩ := h; ⟨x, d, l1, l2, k1, k2, t1, t2, t3, t4, e, hs _ a, hs _ b, hs _ c, hs _ f⟩
theorem RecAt.mono {w : World} {news news' : Led} {v : Value} {d : Dr} (h : RecAt w news v d) (hs : ∀ p ∈ news, p ∈ news') : RecAt w news' v d :=
  let ⟨x, its, dv, t, e, a, b, c⟩ := h; ⟨x, its, dv, t, e, a.mono hs, b, c⟩
noncomputable def txLt (r1 r2 : List Int) : Bool := decide (turnVal (Txt.slice (lineOf r1) (some 8) none) (Txt.slice (lineOf r2) (some 8) none) < 0)
noncomputable def drLt (lt : List Int → List Int → Bool) (ds : List Dr) (i j : Nat) : Bool := lt (ds.getD i noDr).row (ds.getD j noDr).row
/-- the ledger of a sort of records: the table of _law_turn's code ahead -/
noncomputable def RK (base led : Led) : Prop := ∃ ps tl, led = (130, tabObj ps) :: (base ++ tl) ∧ Over base tl ∧ (∀ p ∈ tl, p.1 ≠ 130) ∧ TabInv ps (base ++ tl)
noncomputable def KeyK (c : Addr) (vs : List Value) (led : Led) (i : Nat) (k : Value) : Prop := ∃ x dx r, k = .ref x ∧ vs[i]? = some (.ref r) ∧ (x, kinst c dx (.ref r)) ∈ led ∧ (dx, emptyDict) ∈ led
theorem over_app {base tl tl2 : Led} (h1 : Over base tl) (h2 : Over base tl2) : Over base (tl ++ tl2) := fun q hq p hp => (List.mem_append.mp hp).elim (h1 q hq p) (h2 q hq p)
theorem t_ksorted (w : World) (mean mg mb) (c l : Addr) (k : Nat) (vs : List Value) (ds : List Dr) (hlen : vs.length = ds.length) (h2 : 2 ≤ vs.length) (h64 : vs.length < 64) (hrow : ∀ d ∈ ds, d.row ∈ rowsAll)
    (dp un : Nat) (gd : Option (List Code)) (cn : Str) (cs : Scope) (a : Addr) (ccd : Value) (cl : List (Str × Addr)) (outer : List Env) (A₀ : Around) (bs h₀ : Heap) (L : Addr) (m : Str → Option Value) (ps : Array Value) (base : Led) (s : Shared) (Q : Value → Shared → Prop) (E : Value → Shared → Prop)
    (B : Below A₀ bs outer h₀) (F : Fr h₀ L s.heap m) (X : (hK w.params).In h₀) (N : News h₀ L s.heap ((130, tabObj ps) :: base)) (T : Top VW LS mean mg mb h₀) (C : CodeHd h₀ 134 130) (hk : cs.kind = .function) (hdp : dp + 300 < 1000) (hun : un + 8 * 300 < 9900) (hlt : ∀ p ∈ base, p.1 ≠ 130) (hI : TabInv ps base)
    (hK : KAt w base c) (hl : (l, W.listOf (List.toArray vs) k) ∈ base) (hrec : ∀ (i : Nat) v d, vs[i]? = some v → ds[i]? = some d → RecAt w base v d)
    (hret : ∀ D k' ps' tl h' tk', Fr h₀ L h' m → News h₀ L h' ((130, tabObj ps') :: (base ++ tl)) → Over base tl → (∀ p ∈ tl, p.1 ≠ 130) → TabInv ps' (base ++ tl) → (D, W.listOf (List.toArray ((sortP vs.length (drLt txLt ds)).map fun i => vs.getD i .none)) k') ∈ tl → Q (.ref D) { s with heap := h', toks := tk' }) :
    wpAny (model PG w) (ktrTop dp un gd cn cs L a ccd cl outer) (call (.builtin "sorted") [.ref l] [(Str.ofString "key", .ref c)]) Q E s := by
  have hlL : s.heap.IsList l (List.toArray vs) := ⟨_, (N _ (.tail _ hl)).1, rfl, _, rfl⟩
  refine sorted_gen (R := RK base) (Key := KeyK c vs) (lt := drLt txLt ds) (T := .ref c) F N ⟨ps, [], by rw [List.append_nil], Over.nil, (fun _ h => nomatch h), by rw [List.append_nil]; exact hI⟩ hlL h2 h64 (by ksk_a1) (by intro x'; ksk_a2) (by intro x'; ksk_a3) ?key ?lt ?typ (by rfl) (by simp) ?ret
  case key =>
    rintro i v ex led s1 Q1 hv ⟨ps1, tl1, rfl, hO1, hP1, hT1⟩ hex hap F1 N1 hC
    obtain ⟨d, hd⟩ : ∃ d, ds[i]? = some d := by
      have hi : i < vs.length := by
        rcases Nat.lt_or_ge i vs.length with x | x
        · exact x
        · rw [List.getElem?_eq_none x] at hv; cases hv
      exact ⟨_, List.getElem?_eq_getElem (by omega)⟩
    obtain ⟨r, its, dv, t, rfl, hE, hS, hD⟩ := hrec i v d hv hd
    refine t_kinst w mean mg mb c r dp (un + 1 + 1) gd cn cs a ccd cl outer A₀ bs h₀ L m _ s1 Q1 _ B F1 X N1 T hk (by omega) (by omega) (hK.mono fun p hp => List.mem_append_right _ (.tail _ (List.mem_append_left _ hp))) fun v9 tl9 h9 tk9 F9 N9 O9 o9 => ?_
    obtain ⟨x, dx, rfl, mx, md⟩ := o9
    have inr : ∀ p : Addr × Obj, (∀ xs n, p.2 ≠ seqObj "list" xs n) → p ∈ (ex ++ (130, tabObj ps1) :: (base ++ tl1)) ++ tl9 → p ∈ (130, tabObj ps1) :: (base ++ (tl1 ++ tl9)) := fun p hp hm => by
      rcases List.mem_append.mp hm with hm | hm
      · rcases List.mem_append.mp hm with hm | hm
        · obtain ⟨xs, n, e⟩ := hex p hm
          exact absurd e (hp xs n)
        · rcases List.mem_cons.mp hm with rfl | hm
          · exact .head _
          · rcases List.mem_append.mp hm with hm | hm
            · exact .tail _ (List.mem_append_left _ hm)
            · exact .tail _ (List.mem_append_right _ (List.mem_append_left _ hm))
      · exact .tail _ (List.mem_append_right _ (List.mem_append_right _ hm))
    have O9b : Over base tl9 := fun q hq p hp => O9 q (List.mem_append_right _ (.tail _ (List.mem_append_left _ hq))) p hp
    refine hC _ ((130, tabObj ps1) :: (base ++ (tl1 ++ tl9))) h9 tk9 ⟨ps1, tl1 ++ tl9, rfl, over_app hO1 O9b, fun p hp => ?_, hT1.mono fun p hp => ?_⟩ (fun i k hk => ?_) (fun q hq p hp => ?_) F9 (fun p hp => N9 p ?_) ⟨x, dx, r, rfl, hv, inr _ (fun _ _ q => by cases q) mx, inr _ (fun _ _ q => absurd (congrArg Obj.cls q) (by show Value.type _ ≠ Value.type _; decide)) md⟩
    · rcases List.mem_append.mp hp with hp | hp
      · exact hP1 p hp
      · exact (O9 (130, tabObj ps1) (List.mem_append_right _ (.head _)) p hp).symm
    · rw [← List.append_assoc]; exact List.mem_append_left _ hp
    · obtain ⟨x', dx', r', e, e2, m1, m2⟩ := hk
      have up : ∀ p, p ∈ (130, tabObj ps1) :: (base ++ tl1) → p ∈ (130, tabObj ps1) :: (base ++ (tl1 ++ tl9)) := fun p hp => by
        rcases List.mem_cons.mp hp with rfl | hp
        · exact .head _
        · rw [← List.append_assoc]; exact .tail _ (List.mem_append_left _ hp)
      exact ⟨x', dx', r', e, e2, up _ m1, up _ m2⟩
    · obtain ⟨e, he, rfl⟩ := List.mem_map.mp hq
      rcases List.mem_cons.mp hp with rfl | hp
      · exact hap e.1 hq _ (.head _)
      · rcases List.mem_append.mp hp with hp | hp
        · exact hap e.1 hq _ (.tail _ (List.mem_append_left _ hp))
        · rcases List.mem_append.mp hp with hp | hp
          · exact hap e.1 hq _ (.tail _ (List.mem_append_right _ hp))
          · exact O9 e (List.mem_append_left _ he) p hp
    · rcases List.mem_append.mp hp with hp | hp
      · exact List.mem_append_left _ (List.mem_append_left _ hp)
      · rcases List.mem_cons.mp hp with rfl | hp
        · exact List.mem_append_left _ (List.mem_append_right _ (.head _))
        · rcases List.mem_append.mp hp with hp | hp
          · exact List.mem_append_left _ (List.mem_append_right _ (.tail _ (List.mem_append_left _ hp)))
          · rcases List.mem_append.mp hp with hp | hp
            · exact List.mem_append_left _ (List.mem_append_right _ (.tail _ (List.mem_append_right _ hp)))
            · exact List.mem_append_right _ hp
  case lt =>
    rintro i j ki kj ex led s1 Q1 hi hj ⟨ps1, tl1, rfl, hO1, hP1, hT1⟩ ⟨x, dx, rx, rfl, ex1, mx, mdx⟩ ⟨y, dy, ry, rfl, ey1, my, mdy⟩ hex hap F1 N1 hC
    have hdi : ds[i]? = some (ds.getD i noDr) := by rw [List.getD_eq_getElem?_getD, List.getElem?_eq_getElem (by omega)]; rfl
    have hdj : ds[j]? = some (ds.getD j noDr) := by rw [List.getD_eq_getElem?_getD, List.getElem?_eq_getElem (by omega)]; rfl
    obtain ⟨r1, its1, dv1, t1, e1, hE1, hS1, hD1⟩ := hrec i _ _ ex1 hdi
    obtain ⟨r2, its2, dv2, t2, e2, hE2, hS2, hD2⟩ := hrec j _ _ ey1 hdj
    cases e1
    cases e2
    have T1 := (row_tx (hrow _ (List.mem_of_getElem? hdi))).2
    have T2 := (row_tx (hrow _ (List.mem_of_getElem? hdj))).2
    have upB : ∀ p, p ∈ base → p ∈ ex ++ (base ++ tl1) := fun p hp => List.mem_append_right _ (List.mem_append_left _ hp)
    have up : ∀ p : Addr × Obj, p.2 ≠ tabObj ps1 → p ∈ (130, tabObj ps1) :: (base ++ tl1) → p ∈ ex ++ (base ++ tl1) := fun p hne hp => by
      rcases List.mem_cons.mp hp with rfl | hp
      · exact absurd rfl hne
      · exact List.mem_append_right _ hp
    have N1' : News h₀ L s1.heap ((130, tabObj ps1) :: (ex ++ (base ++ tl1))) := fun p hp => N1 p (by
      rcases List.mem_cons.mp hp with rfl | hp
      · exact List.mem_append_right _ (.head _)
      · rcases List.mem_append.mp hp with hp | hp
        · exact List.mem_append_left _ hp
        · exact List.mem_append_right _ (.tail _ hp))
    refine t_klt T1.len T2.len T1.asc T2.asc T1.fit T2.fit (by have := T1.pos; have := T2.pos; omega) T1.pl T2.pl w mean mg mb c x y dx dy rx ry its1 its2 dv1 dv2 t1 t2 dp (un + 1 + 1) gd cn cs a ccd cl outer A₀ bs h₀ L m ps1 (ex ++ (base ++ tl1)) s1 Q1 _ B F1 X N1' T C hk (by omega) (by omega) (fun p hp => ?_) (hT1.mono fun p hp => List.mem_append_right _ hp)
      (hK.mono upB) (up _ (fun q => by cases q) mx) (up _ (fun q => by cases q) mdx) (up _ (fun q => by cases q) my) (up _ (fun q => by cases q) mdy) (hE1.mono upB) (hE2.mono upB) fun ps9 tl9 h9 tk9 F9 N9 O9 P9 I9 => ?_
    · rcases List.mem_append.mp hp with hp | hp
      · exact hap p.1 (List.mem_map_of_mem hp) _ (.head _)
      · rcases List.mem_append.mp hp with hp | hp
        · exact hlt p hp
        · exact hP1 p hp
    have O9b : Over base tl9 := fun q hq p hp => O9 q (List.mem_append_right _ (List.mem_append_left _ hq)) p hp
    refine hC ((130, tabObj ps9) :: (base ++ (tl1 ++ tl9))) h9 tk9 ⟨ps9, tl1 ++ tl9, rfl, over_app hO1 O9b, fun p hp => (List.mem_append.mp hp).elim (hP1 p) (P9 p), ?_⟩ (fun i k hk => ?_) (fun q hq p hp => ?_) F9 (fun p hp => N9 p ?_)
    · rcases I9 with rfl | ⟨c', oc, vs', t', rfl, hm, hd, hv⟩
      · exact .inl rfl
      · refine .inr ⟨c', oc, vs', t', rfl, ?_, hd, hv⟩
        rcases List.mem_append.mp hm with hm | hm
        · rcases List.mem_append.mp hm with hm | hm
          · obtain ⟨xs, n, e⟩ := hex _ hm
            rw [show oc = seqObj "list" xs n from e] at hd
            cases hd
          · rw [← List.append_assoc]; exact List.mem_append_left _ hm
        · exact List.mem_append_right _ (List.mem_append_right _ hm)
    · obtain ⟨x', dx', r', e, e2, m1, m2⟩ := hk
      have up2 : ∀ p : Addr × Obj, p.2 ≠ tabObj ps1 → p ∈ (130, tabObj ps1) :: (base ++ tl1) → p ∈ (130, tabObj ps9) :: (base ++ (tl1 ++ tl9)) := fun p hne hp => by
        rcases List.mem_cons.mp hp with rfl | hp
        · exact absurd rfl hne
        · rw [← List.append_assoc]; exact .tail _ (List.mem_append_left _ hp)
      exact ⟨x', dx', r', e, e2, up2 _ (fun q => by cases q) m1, up2 _ (fun q => by cases q) m2⟩
    · obtain ⟨e, he, rfl⟩ := List.mem_map.mp hq
      rcases List.mem_cons.mp hp with rfl | hp
      · exact hap e.1 hq (130, tabObj ps1) (.head _)
      · rcases List.mem_append.mp hp with hp | hp
        · exact hap e.1 hq _ (.tail _ (List.mem_append_left _ hp))
        · rcases List.mem_append.mp hp with hp | hp
          · exact hap e.1 hq _ (.tail _ (List.mem_append_right _ hp))
          · exact O9 e (List.mem_append_left _ he) p hp
    · rcases List.mem_append.mp hp with hp | hp
      · exact .tail _ (List.mem_append_left _ (List.mem_append_left _ hp))
      · rcases List.mem_cons.mp hp with rfl | hp
        · exact .head _
        · rcases List.mem_append.mp hp with hp | hp
          · exact .tail _ (List.mem_append_left _ (List.mem_append_right _ (List.mem_append_left _ hp)))
          · rcases List.mem_append.mp hp with hp | hp
            · exact .tail _ (List.mem_append_left _ (List.mem_append_right _ (List.mem_append_right _ hp)))
            · exact .tail _ (List.mem_append_right _ hp)
  case typ =>
    rintro led ex h i k ⟨x, dx, r, rfl, _, mx, _⟩ N1
    exact (Looks.ld (N1 _ (List.mem_append_right _ mx)).1).andThen .now
  case ret =>
    rintro D kS c1 c2 led' h' tk' ⟨ps1, tl1, rfl, hO1, hP1, hT1⟩ hap lDk lq F1 N1
    have aD : ∀ q ∈ base, @LT.lt Nat _ q.1 D := fun q hq => lq q (.tail _ hq)
    refine hret D c2 ps1 ((kS, seqObj "list" #[] c1) :: (D, W.listOf (List.toArray ((sortP vs.length (drLt txLt ds)).map fun i => vs.getD i .none)) c2) :: tl1) h' tk' F1 (fun p hp => N1 p ?_) (Over.cons (fun q hq => Nat.ne_of_lt (Nat.lt_trans (aD q hq) lDk)) (Over.cons (fun q hq => Nat.ne_of_lt (aD q hq)) hO1)) (fun p hp => ?_) (hT1.mono fun p hp => ?_) (.tail _ (.head _))
    · rcases List.mem_cons.mp hp with rfl | hp
      · exact .tail _ (.tail _ (.head _))
      · rcases List.mem_append.mp hp with hp | hp
        · exact .tail _ (.tail _ (.tail _ (List.mem_append_left _ hp)))
        · rcases List.mem_cons.mp hp with rfl | hp
          · exact .head _
          · rcases List.mem_cons.mp hp with rfl | hp
            · exact .tail _ (.head _)
            · exact .tail _ (.tail _ (.tail _ (List.mem_append_right _ hp)))
    · rcases List.mem_cons.mp hp with rfl | hp
      · exact hap kS (.head _) _ (.head _)
      · rcases List.mem_cons.mp hp with rfl | hp
        · exact hap D (.tail _ (.head _)) _ (.head _)
        · exact hP1 p hp
    · rcases List.mem_append.mp hp with hp | hp
      · exact List.mem_append_left _ hp
      · exact List.mem_append_right _ (.tail _ (.tail _ hp))
end SS3
section SW10
open PySem PySem.W PyProof.Rows PySem.Calls
set_option Elab.async false
set_option maxRecDepth 100000
set_option maxHeartbeats 0
/-- the sum of two lists read side by side -/
noncomputable def zf (v : Int) : List Nat → List Nat → Int
  | a :: as, b :: bs => zf (stepOf v a b) as bs
  | _, _ => v
theorem zf_ne {v : Int} (h : v ≠ 0) : ∀ {a b : List Nat}, zf v a b = v
  | [], _ => rfl
  | _ :: _, [] => rfl
  | x :: a, y :: b => by
    show zf (stepOf v x y) a b = v
    have e : stepOf v x y = v := if_pos h
    rw [e]; exact zf_ne h
theorem zf_step (x y : Nat) (a b : List Nat) : zf 0 (x :: a) (y :: b) = if placeOf x = placeOf y then zf 0 a b else placeOf x - placeOf y := by
  show zf (stepOf 0 x y) a b = _
  have e : stepOf 0 x y = placeOf x - placeOf y := if_neg (by simp)
  rw [e]
  split
  · rw [show placeOf x - placeOf y = 0 by omega]
  · exact zf_ne (by omega)
theorem zf_range : ∀ (a b : List Nat) (v : Int), (List.range (min a.length b.length)).foldl (fun v i => stepOf v (a.getD i 0) (b.getD i 0)) v = zf v a b
  | [], _, _ => by simp [zf]
  | _ :: _, [], _ => by simp [zf]
  | x :: a, y :: b, v => by
    have e : min (x :: a).length (y :: b).length = min a.length b.length + 1 := by simp only [List.length_cons]; omega
    rw [e, List.range_succ_eq_map, List.foldl_cons, List.foldl_map]
    show List.foldl _ (stepOf v x y) _ = zf (stepOf v x y) a b
    rw [← zf_range a b]
    rfl
theorem turn_zf (x y : Str) : turnVal x y = if zf 0 x.cps.toList y.cps.toList ≠ 0 then zf 0 x.cps.toList y.cps.toList else (x.cps.toList.length : Int) - (y.cps.toList.length : Int) := by
  have e : zfold stepOf x y (min x.cps.size y.cps.size) = zf 0 x.cps.toList y.cps.toList := by
    rw [← zf_range]
    unfold zfold
    rw [Array.length_toList, Array.length_toList]
    congr 1
    funext v i
    rw [Array.getD_eq_getD_getElem?, Array.getD_eq_getD_getElem?, List.getD_eq_getElem?_getD, List.getD_eq_getElem?_getD, Array.getElem?_toList, Array.getElem?_toList]
  unfold turnVal
  rw [e]
  rfl
theorem lex_zf : ∀ (a b : List Nat), decide ((if zf 0 a b ≠ 0 then zf 0 a b else (a.length : Int) - (b.length : Int)) < 0) = rowLt (a.map placeOf) (b.map placeOf)
  | [], [] => by simp [zf, rowLt]
  | [], y :: b => by
    simp only [zf, rowLt, List.map_nil, List.map_cons, List.length_nil, List.length_cons]
    simp <;> omega
  | x :: a, [] => by
    simp only [zf, rowLt, List.map_nil, List.map_cons, List.length_nil, List.length_cons]
    simp <;> omega
  | x :: a, y :: b => by
    rw [zf_step, List.map_cons, List.map_cons]
    show _ = (if placeOf x = placeOf y then rowLt (a.map placeOf) (b.map placeOf) else decide (placeOf x < placeOf y))
    by_cases h : placeOf x = placeOf y
    · rw [if_pos h, if_pos h, ← lex_zf a b]
      have e : ((x :: a).length : Int) - ((y :: b).length : Int) = (a.length : Int) - (b.length : Int) := by simp only [List.length_cons]; omega
      rw [e]
    · rw [if_neg h, if_neg h, if_pos (by omega)]
      exact decide_eq_decide.mpr (by omega)
theorem row_irr : ∀ a : List Int, rowLt a a = false
  | [] => rfl
  | x :: a => by show (if x = x then rowLt a a else _) = false; rw [if_pos rfl]; exact row_irr a
theorem row_trans : ∀ {a b c : List Int}, rowLt a b = true → rowLt b c = true → rowLt a c = true
  | [], _, [], _, h => by rename_i b _; cases b <;> simp [rowLt] at h
  | [], _, _ :: _, _, _ => rfl
  | _ :: _, [], _, h, _ => by simp [rowLt] at h
  | _ :: _, _ :: _, [], _, h => by simp [rowLt] at h
  | x :: a, y :: b, z :: c, h1, h2 => by
    simp only [rowLt] at h1 h2 ⊢
    split at h1
    · rename_i e; subst e
      split at h2
      · rename_i e; subst e; rw [if_pos rfl]; exact row_trans h1 h2
      · rename_i e; rw [if_neg e]; exact h2
    · split at h2
      · rename_i e e2; subst e2; rw [if_neg e]; exact h1
      · simp only [decide_eq_true_eq] at h1 h2
        rw [if_neg (by omega)]
        exact decide_eq_true (by omega)
theorem row_asym {a b : List Int} (h : rowLt a b = true) : rowLt b a = false := by
  cases h2 : rowLt b a with
  | false => rfl
  | true => have := row_trans h h2; rw [row_irr] at this; cases this
noncomputable def plc (r : List Int) : List Int := (bare r).map fun c => placeOf c.toNat
theorem tx_row {r1 r2 : List Int} (h1 : r1 ∈ rowsAll) (h2 : r2 ∈ rowsAll) : txLt r1 r2 = rowLt (plc r1) (plc r2) := by
  unfold txLt
  rw [(row_tx h1).1, (row_tx h2).1, turn_zf, lex_zf]
  unfold plc wr64
  simp [List.map_map, Function.comp_def]
noncomputable def gen : Nat → List (List Int)
  | 0 => []
  | k + 1 => [0, 3, 65, 255].flatMap fun d => [d] :: (gen k).map (d :: ·)
theorem mem_gen : ∀ (k : Nat) (r : List Int), r ≠ [] → r.length ≤ k → (∀ x ∈ r, x ∈ ([0, 3, 65, 255] : List Int)) → r ∈ gen k
  | _, [], h, _, _ => absurd rfl h
  | 0, _ :: _, _, h, _ => by simp at h
  | k + 1, [x], _, _, hm => List.mem_flatMap.mpr ⟨x, hm x (.head _), .head _⟩
  | k + 1, x :: y :: r, _, hl, hm => List.mem_flatMap.mpr ⟨x, hm x (.head _), .tail _ (List.mem_map_of_mem (mem_gen k (y :: r) (by simp) (by simpa using hl) fun z hz => hm z (.tail _ hz)))⟩
theorem rows_menu : rowsAll.all (fun r => !r.isEmpty && decide (r.length ≤ 4) && r.all (fun x => ([0, 3, 65, 255] : List Int).contains x)) = true := by decide +kernel
theorem rows_gen {r : List Int} (h : r ∈ rowsAll) : r ∈ gen 4 := by
  have f := List.all_eq_true.mp rows_menu r h
  simp only [Bool.and_eq_true, decide_eq_true_eq, Bool.not_eq_true'] at f
  refine mem_gen 4 r (by rintro rfl; simp at f) f.1.2 fun x hx => ?_
  have := List.all_eq_true.mp f.2 x hx
  exact List.contains_iff_mem.mp this
noncomputable def plN (c : Nat) : Int := if 65 ≤ c ∧ c ≤ 90 then (c : Int) - 65 else if 97 ≤ c ∧ c ≤ 122 then (c : Int) - 71 else if 48 ≤ c ∧ c ≤ 57 then (c : Int) + 4 else if c = 43 then 62 else 63
theorem plN_all : alphN.all (fun c => decide (placeOf c = plN c)) = true := by decide +kernel
noncomputable def plcN (r : List Int) : List Int := (bare r).map fun c => plN c.toNat
theorem plc_N {r : List Int} (h : r ∈ rowsAll) : plc r = plcN r := by
  have f := List.all_eq_true.mp rowsAll_tx r h
  unfold plc plcN
  refine List.map_congr_left fun c hc => ?_
  have := List.all_eq_true.mp plN_all c.toNat (chN_mem (List.all_eq_true.mp f c hc))
  simpa using this
noncomputable def chk : List (List Int) → Bool
  | a :: b :: r => rowLt a b && rowLt (plcN a) (plcN b) && chk (b :: r)
  | _ => true
theorem chk_gen : chk (gen 4) = true := by decide +kernel
theorem chk_all : ∀ {a : List Int} {l : List (List Int)}, chk (a :: l) = true → ∀ b ∈ l, rowLt a b = true ∧ rowLt (plcN a) (plcN b) = true
  | _, [], _, _, h => nomatch h
  | a, c :: l, h, b, hb => by
    simp only [chk, Bool.and_eq_true] at h
    rcases List.mem_cons.mp hb with rfl | hb
    · exact h.1
    · have ih := chk_all h.2 b hb
      exact ⟨row_trans h.1.1 ih.1, row_trans h.1.2 ih.2⟩
theorem chk_tail {a : List Int} {l : List (List Int)} (h : chk (a :: l) = true) : chk l = true := by
  cases l with
  | nil => rfl
  | cons b r => simp only [chk, Bool.and_eq_true] at h; exact h.2
theorem chk_tri : ∀ {l : List (List Int)}, chk l = true → ∀ a ∈ l, ∀ b ∈ l, rowLt a b = rowLt (plcN a) (plcN b)
  | [], _, _, h, _, _ => nomatch h
  | c :: l, h, a, ha, b, hb => by
    rcases List.mem_cons.mp ha with e1 | ha2
    · rcases List.mem_cons.mp hb with e2 | hb2
      · rw [e1, e2, row_irr, row_irr]
      · have q := chk_all h b hb2
        rw [e1, q.1, q.2]
    · rcases List.mem_cons.mp hb with e2 | hb2
      · have q := chk_all h a ha2
        rw [e2, row_asym q.1, row_asym q.2]
      · exact chk_tri (chk_tail h) a ha2 b hb2
theorem tx_eq {r1 r2 : List Int} (h1 : r1 ∈ rowsAll) (h2 : r2 ∈ rowsAll) : txLt r1 r2 = rowLt r1 r2 := by
  rw [tx_row h1 h2, plc_N h1, plc_N h2, chk_tri chk_gen r1 (rows_gen h1) r2 (rows_gen h2)]
end SW10
section SS4
open PySem PySem.W PyProof.Rows PySem.Calls
set_option Elab.async false
set_option maxRecDepth 100000
set_option maxHeartbeats 0
noncomputable abbrev keyParams (p : Pos) : Arguments := { posonlyargs := [], args := [{ arg := Str.ofString "record", annotation := none, pos := p }], vararg := none, kwonlyargs := [], kw_defaults := [], kwarg := none, defaults := [] }
noncomputable abbrev keyBody (p0 p1 p2 : Pos) : Expr := .Subscript (.Name (Str.ofString "record") p0) (.Constant (.int 2) 0 p1) p2
noncomputable abbrev keyScope : Scope := { kind := .function, names := [(Str.ofString "record", .local)], isGenerator := false, isCoroutine := false }
theorem DrAt.mono {news news' : Led} {v : Value} {ags : List Str} {dl : Option Int} {row : List Int} (h : DrAt news v ags dl row) (hs : ∀ p ∈ news, p ∈ news') : DrAt news' v ags dl row :=
  let ⟨l, la, lr, k, ka, kr, dv, itsA, itsR, e, a, b, c, d, f, g⟩ := h; ⟨l, la, lr, k, ka, kr, dv, itsA, itsR, e, hs _ a, hs _ b, c, d, hs _ f, g⟩
theorem t_lamkey (w : World) (mean mg mb) (f c' l : Addr) (oc : Obj) (vs : Array Value) (tq : Tok) (qual : Str) (pm ctv : Value) (p p0 p1 p2 : Pos) (va vd vr : Value) (k : Nat) (hoc : oc.data = .fields vs) (hvs : vs[1]? = some (.str qual tq)) :
    Ct 40 w mean mg mb (.ref f) [.ref l] [] (fun news => (f, kla_obj (Str.ofString "<lambda>") qual (keyParams p) (keyBody p0 p1 p2) keyScope [] pm c' ctv) ∈ news ∧ (c', oc) ∈ news ∧ (l, W.listOf #[va, vd, vr] k) ∈ news) (fun _ r => r = vr) := by
  w_top off
  unfold Ct PG; k_fill
  intro dp un gd cn cs a ccd cl outer A₀ base h₀ L m news s Q E B F X N T hk hdp hun hpre hret
  obtain ⟨m1, m2, hm⟩ := hpre
  refine wpAny_call ?_
  k_dflt ((refine' kla_code (by k_asm) (by k_asm) (by k_asm) (by k_asm) (by k_asm) (by exact rfl) (by exact rfl) (by assumption) (by k_mem) (by exact codeRec_news (by k_asm) (by k_mem) (by assumption) (by assumption)) (by k_room) (by exact rfl) (by exact locs rfl) ?_ (by exact rfl) (by exact rfl) (by exact rfl) (by decide); k_whole; intro g' L' h' FG' F' N' B' X' T'; (try dsimp only); (try k_lift B'); (try k_fold)))
  dsimp only [keyBody, keyScope, keyParams]
  k_steps
  ((with_reducible show wpAny _ _ (subscriptTail _ _ (Value.ref _) (Value.int _ _)) _ _ _); k_dflt (refine' kim_list (by k_asm) (by exact hm) (by exact rfl) (by exact rfl) (by decide) (by decide) (by exact rfl) ?_))
  k_steps
  k_dflt (exact hret _ [] _ _ (by k_asm) (News.sub0 (by k_asm) (fun p hp => hp)) Over.nil rfl)
noncomputable def RL (base led : Led) : Prop := ∃ tl, led = base ++ tl ∧ Over base tl
noncomputable def KeyL (ds : List Dr) (led : Led) (i : Nat) (k : Value) : Prop := ∃ lr kr its d, k = .ref lr ∧ ds[i]? = some d ∧ (lr, W.listOf (List.toArray its) kr) ∈ led ∧ IntsAre its d.row
theorem t_dsorted (w : World) (mean mg mb) (f c' l : Addr) (oc : Obj) (fvs : Array Value) (tq : Tok) (qual : Str) (pm ctv : Value) (p p0 p1 p2 : Pos) (hoc : oc.data = .fields fvs) (hvs : fvs[1]? = some (.str qual tq)) (k : Nat) (vs : List Value) (ds : List Dr) (hlen : vs.length = ds.length) (h2 : 2 ≤ vs.length) (h64 : vs.length < 64)
    (dp un : Nat) (gd : Option (List Code)) (cn : Str) (cs : Scope) (a : Addr) (ccd : Value) (cl : List (Str × Addr)) (outer : List Env) (A₀ : Around) (bs h₀ : Heap) (L : Addr) (m : Str → Option Value) (base : Led) (s : Shared) (Q : Value → Shared → Prop) (E : Value → Shared → Prop)
    (B : Below A₀ bs outer h₀) (F : Fr h₀ L s.heap m) (X : (hK w.params).In h₀) (N : News h₀ L s.heap base) (T : Top VW LS mean mg mb h₀) (hk : cs.kind = .function) (hdp : dp + 100 < 1000) (hun : un + 8 * 100 < 9900)
    (hf : (f, kla_obj (Str.ofString "<lambda>") qual (keyParams p) (keyBody p0 p1 p2) keyScope [] pm c' ctv) ∈ base) (hc : (c', oc) ∈ base) (hl : (l, W.listOf (List.toArray vs) k) ∈ base) (hrec : ∀ (i : Nat) v d, vs[i]? = some v → ds[i]? = some d → DrAt base v d.ags d.dl d.row)
    (hret : ∀ D k' tl h' tk', Fr h₀ L h' m → News h₀ L h' (base ++ tl) → Over base tl → (D, W.listOf (List.toArray ((sortP vs.length (drLt rowLt ds)).map fun i => vs.getD i .none)) k') ∈ tl → Q (.ref D) { s with heap := h', toks := tk' }) :
    wpAny (model PG w) (ktrTop dp un gd cn cs L a ccd cl outer) (call (.builtin "sorted") [.ref l] [(Str.ofString "key", .ref f)]) Q E s := by
  have hlL : s.heap.IsList l (List.toArray vs) := ⟨_, (N _ hl).1, rfl, _, rfl⟩
  refine sorted_gen (R := RL base) (Key := KeyL ds) (lt := drLt rowLt ds) (T := .type "list") F N ⟨[], by rw [List.append_nil], Over.nil⟩ hlL h2 h64 (by ksk_a1) (by intro x'; ksk_a2) (by intro x'; ksk_a3) ?key ?lt ?typ (by rfl) (by simp) ?ret
  case key =>
    rintro i v ex led s1 Q1 hv ⟨tl1, rfl, hO1⟩ hex hap F1 N1 hC
    obtain ⟨d, hd⟩ : ∃ d, ds[i]? = some d := by
      have hi : i < vs.length := by
        rcases Nat.lt_or_ge i vs.length with x | x
        · exact x
        · rw [List.getElem?_eq_none x] at hv; cases hv
      exact ⟨_, List.getElem?_eq_getElem (by omega)⟩
    have hD := hrec i v d hv hd
    obtain ⟨l', la, lr, k, ka, kr, dv, itsA, itsR, e, hm, hma, hsA, hdl, hmr, hiR⟩ := hD
    subst e
    have upB : ∀ p, p ∈ base → p ∈ ex ++ (base ++ tl1) := fun p hp => List.mem_append_right _ (List.mem_append_left _ hp)
    refine t_lamkey w mean mg mb f c' l' oc fvs tq qual pm ctv p p0 p1 p2 (.ref la) dv (.ref lr) k hoc hvs dp (un + 1 + 1) gd cn cs a ccd cl outer A₀ bs h₀ L m _ s1 Q1 _ B F1 X N1 T hk (by omega) (by omega) ⟨upB _ hf, upB _ hc, upB _ hm⟩ fun v9 tl9 h9 tk9 F9 N9 O9 o9 => ?_
    subst o9
    have N9' : News h₀ L h9 (ex ++ (base ++ (tl1 ++ tl9))) := fun p hp => N9 p (by
      rcases List.mem_append.mp hp with hp | hp
      · exact List.mem_append_left _ (List.mem_append_left _ hp)
      · rcases List.mem_append.mp hp with hp | hp
        · exact List.mem_append_left _ (upB _ hp)
        · rcases List.mem_append.mp hp with hp | hp
          · exact List.mem_append_left _ (List.mem_append_right _ (List.mem_append_right _ hp))
          · exact List.mem_append_right _ hp)
    have O9b : Over base tl9 := fun q hq p hp => O9 q (upB _ hq) p hp
    refine hC _ (base ++ (tl1 ++ tl9)) h9 tk9 ⟨tl1 ++ tl9, rfl, over_app hO1 O9b⟩ (fun i k hk => ?_) (fun q hq p hp => ?_) F9 N9' ⟨lr, kr, itsR, d, rfl, hd, List.mem_append_left _ hmr, hiR⟩
    · obtain ⟨lr', kr', its', d', e, e2, m1, i1⟩ := hk
      exact ⟨lr', kr', its', d', e, e2, by rw [← List.append_assoc]; exact List.mem_append_left _ m1, i1⟩
    · obtain ⟨e, he, rfl⟩ := List.mem_map.mp hq
      rcases List.mem_append.mp hp with hp | hp
      · exact hap e.1 hq _ (List.mem_append_left _ hp)
      · rcases List.mem_append.mp hp with hp | hp
        · exact hap e.1 hq _ (List.mem_append_right _ hp)
        · exact O9 e (List.mem_append_left _ he) p hp
  case lt =>
    rintro i j ki kj ex led s1 Q1 hi hj ⟨tl1, rfl, hO1⟩ ⟨lr1, kr1, its1, d1, rfl, e1, m1, i1⟩ ⟨lr2, kr2, its2, d2, rfl, e2, m2, i2⟩ hex hap F1 N1 hC
    have g1 := (N1 _ (List.mem_append_right _ m1)).1
    have g2 := (N1 _ (List.mem_append_right _ m2)).1
    have ed1 : ds.getD i noDr = d1 := by rw [List.getD_eq_getElem?_getD, e1]; rfl
    have ed2 : ds.getD j noDr = d2 := by rw [List.getD_eq_getElem?_getD, e2]; rfl
    refine klt_list (by k_units) g1 g2 (by simpa using i1) (by simpa using i2) ?_
    have := hC (base ++ tl1) s1.heap s1.toks ⟨tl1, rfl, hO1⟩ (fun _ _ h => h) hap F1 N1
    rw [show drLt rowLt ds i j = rowLt d1.row d2.row by unfold drLt; rw [ed1, ed2]] at this
    exact this
  case typ =>
    rintro led ex h i k ⟨lr, kr, its, d, rfl, _, mx, _⟩ N1
    exact (Looks.ld (N1 _ (List.mem_append_right _ mx)).1).andThen .now
  case ret =>
    rintro D kS c1 c2 led' h' tk' ⟨tl1, rfl, hO1⟩ hap lDk lq F1 N1
    have aD : ∀ q ∈ base, @LT.lt Nat _ q.1 D := fun q hq => lq q hq
    refine hret D c2 ((kS, seqObj "list" #[] c1) :: (D, W.listOf (List.toArray ((sortP vs.length (drLt rowLt ds)).map fun i => vs.getD i .none)) c2) :: tl1) h' tk' F1 (fun p hp => N1 p ?_) (Over.cons (fun q hq => Nat.ne_of_lt (Nat.lt_trans (aD q hq) lDk)) (Over.cons (fun q hq => Nat.ne_of_lt (aD q hq)) hO1)) (.tail _ (.head _))
    rcases List.mem_append.mp hp with hp | hp
    · exact .tail _ (.tail _ (List.mem_append_left _ hp))
    · rcases List.mem_cons.mp hp with rfl | hp
      · exact .head _
      · rcases List.mem_cons.mp hp with rfl | hp
        · exact .tail _ (.head _)
        · exact .tail _ (.tail _ (List.mem_append_right _ hp))
end SS4
section SLT2
local macro_rules | `(tactic| walk_at "none") => `(tactic| skip)
open PySem PySem.W PyProof.Rows PySem.Calls
set_option Elab.async false
set_option maxRecDepth 100000
set_option maxHeartbeats 0
open LCg LCt
section
variable {prog : Program} {w : World} {A : Around} {s : Shared} {h₀ : Heap} {L : Addr} {m : Str → Option Value} {env : Env} {ct elt : Expr} {x : Str} {scope : Scope} {cl : List (Str × Addr)} {S : Led → Prop} {P : Nat → Value → Prop} {Fin : List Value → Led → Prop} {n : Nat}
/-- the turns of a comprehension with a test, by an invariant -/
theorem comp_indT (Inv : Nat → List Value → Led → Prop)
    (step : ∀ i ys news v I oI C oC D m₂ h tk (E' : Value → Shared → Prop), i < n → Inv i ys news → P i v → LCg.NsObj oC m₂ → m₂ x = some v → Fr h₀ L h m → News h₀ L h ((I, oI) :: (C, oC) :: (D, LCg.lst ys) :: news) → LCg.Off3 I C D news → ((@Ne Nat I C) ∧ (@Ne Nat I D) ∧ (@Ne Nat C D)) →
      wpAny (model prog w) A (isTrue ct (compEnvC scope cl C env) (eval ct (compEnvC scope cl C env))) (fun ok s' => if ok = true then
        wpAny (model prog w) A (eval elt (compEnvC scope cl C env)) (LCg.CompEnd h₀ L m { s with heap := h, toks := tk } I oI C oC D (LCg.lst ys) S (fun y news' => Inv (i + 1) (ys ++ [y]) news')) E' s'
        else LCg.CompEnd h₀ L m { s with heap := h, toks := tk } I oI C oC D (LCg.lst ys) S (fun _ news' => Inv (i + 1) ys news') Value.none s') E' { s with heap := h, toks := tk })
    (fin : ∀ ys news, Inv n ys news → Fin ys news) : ∀ k i ys news, i + k = n → Inv i ys news → LCt.CompRestT prog w A h₀ L m env ct elt x scope cl s S P Fin k i ys news := by
  intro k
  induction k with
  | zero => intro i ys news hi hI; obtain rfl : i = n := by omega
            exact LCt.CompRestT.zero (fin ys news hI)
  | succ k ih =>
    intro i ys news hi hI
    refine LCt.CompRestT.succ fun v I oI C oC D m₂ h tk E' hP hC hx F N off ne => ?_
    refine wpAny_mono (step i ys news v I oI C oC D m₂ h tk E' (by omega) hI hP hC hx F N off ne) (fun ok s₂ h₂ => ?_) fun _ _ e => e
    cases ok with
    | true =>
      simp only [if_true] at h₂ ⊢
      refine wpAny_mono h₂ (fun y s₃ h₃ => ?_) fun _ _ e => e
      obtain ⟨h', tk', news', e, F', N', o3, hS, hr⟩ := h₃
      exact ⟨h', tk', news', e, F', N', o3, hS, ih (i + 1) _ _ (by omega) hr⟩
    | false =>
      simp only [Bool.false_eq_true, if_false] at h₂ ⊢
      obtain ⟨h', tk', news', e, F', N', o3, hS, hr⟩ := h₂
      exact ⟨h', tk', news', e, F', N', o3, hS, ih (i + 1) _ _ (by omega) hr⟩
end
theorem names3 {P : Str × NameKind → Prop} {a b c : Str × NameKind} (h1 : P a) (h2 : P b) (h3 : P c) : ∀ y ∈ [a, b, c], P y := fun y hy => by
  simp only [List.mem_cons, List.not_mem_nil, or_false] at hy
  rcases hy with rfl | rfl | rfl <;> assumption
theorem eq_nil {prog : Program} {w : World} {A : Around} {E : Value → Shared → Prop} {s : Shared} {a b : Addr} {xs : List Value} {k kb : Nat} {Q : Value → Shared → Prop} (hu : A.units < cLine) (ha : s.heap.get? a = some (W.listOf (List.toArray xs) k)) (hb : s.heap.get? b = some (W.listOf #[] kb)) (h : Q (.bool (decide (xs = []))) s) :
    wpAny (model prog w) A (compareOp .Eq (.ref a) (.ref b)) Q E s := by
  have la : s.heap.IsList a (List.toArray xs) := ⟨_, ha, rfl, _, rfl⟩
  have lb : s.heap.IsList b #[] := ⟨_, hb, rfl, _, rfl⟩
  cases xs with
  | nil => exact SeqAt.eq_listAt (e := fun _ => true) la lb rfl hu (fun j h1 _ => absurd h1 (Nat.not_lt_zero _)) h
  | cons x xs => exact SeqAt.eq_list_lengthsAt la lb (by simp) hu h
noncomputable abbrev ltScope (more : List (Str × Const)) : Scope := { kind := .function, names := [(Str.ofString "drawn", .local), (Str.ofString "row", .cell), (Str.ofString "agents", .local), (Str.ofString "delays", .local), (Str.ofString "allowed", .local), (Str.ofString "lines", .local), (Str.ofString "sorted", .globalImplicit)], isGenerator := false, isCoroutine := false, more := more }
noncomputable abbrev scB (more : List (Str × Const)) : Scope := { kind := .function, names := [(Str.ofString ".0", .local), (Str.ofString "record", .local), (Str.ofString "agent", .free)], isGenerator := false, isCoroutine := false, more := more }
noncomputable abbrev scA (more : List (Str × Const)) : Scope := scC (Str.ofString ".0") (Str.ofString "agent") (Str.ofString "row") false false more
noncomputable abbrev ltEnv (more : List (Str × Const)) (L : Addr) (ccd : Value) : Env := envX (Str.ofString "_law_text") (ltScope more) L 145 ccd [(Str.ofString "row", L + 1)]
noncomputable abbrev ltEnvA (more m2 : List (Str × Const)) (L : Addr) (ccd : Value) (cA C : Addr) : Env := compEnvC (scA m2) [(Str.ofString "agent", cA), (Str.ofString "row", L + 1)] C (ltEnv more L ccd)
/-- the records that lack an agent -/
noncomputable def lacks (a : Str) (dq : List Dr) : List Dr := dq.filter fun d => !d.ags.contains a
set_option hygiene false in
local macro_rules | `(tactic| walk_at "eval Name") => `(tactic| ((with_reducible show wpAny _ _ (eval (Expr.Name (Str.ofString "agent") _) _) _ _ _); k_dflt (refine' lcf_cell (by k_asm) (by rfl) (by k_mem) (by exact hcA) ?_ (by rfl) (by rfl))))
set_option hygiene false in
local macro_rules | `(tactic| walk_at "compareOp NotIn str ref") => `(tactic| (k_dflt (refine' notin_list_strs (by exact ⟨_, (by k_asm : News _ _ _ _) _ (List.Mem.tail _ (List.Mem.tail _ (List.Mem.tail _ hma))), rfl, _, rfl⟩) (by exact hsA) ?_)))
theorem lt_inner (w : World) (mean mg mb) (more m2 m3 : List (Str × Const)) (cA C : Addr) (oc : Obj) (a : Str) (ta : Tok) (hcA : oc.data = .cell (some (.str a ta))) (vq : List Value) (dq : List Dr) (hlen : vq.length = dq.length) (h64 : vq.length < 64) (k : Nat) (D cR : Addr) (oR : Obj) (p1 p2 p3 p4 p5 p6 p7 p8 p9 : Pos)
    (dp un : Nat) (gd : Option (List Code)) (ccd : Value) (outer : List Env) (A₀ : Around) (bs h₀ : Heap) (L : Addr) (m : Str → Option Value) (base : Led) (s : Shared) (Q E : Value → Shared → Prop) (hdR : oR.data = .cell (some (.ref D)))
    (B : Below A₀ bs outer h₀) (F : Fr h₀ L s.heap m) (X : (hK w.params).In h₀) (N : News h₀ L s.heap base) (T : Top VW LS mean mg mb h₀) (hdp : dp + 100 < 1000) (hun : un + 8 * 100 < 9900)
    (mR : (L + 1, oR) ∈ base) (mc : (cA, oc) ∈ base) (mD : (D, W.listOf (List.toArray vq) k) ∈ base) (hrec : ∀ (i : Nat) v d, vq[i]? = some v → dq[i]? = some d → DrAt base v d.ags d.dl d.row)
    (hret : ∀ G ys h' tk', ys.length = (lacks a dq).length → Fr h₀ L h' m → News h₀ L h' ((G, lst ys) :: base) → Off1 G base → Q (.ref G) { s with heap := h', toks := tk' }) :
    wpAny (model PG w) (ktrTop dp un gd (Str.ofString "_law_text") (ltScope more) L 145 ccd [(Str.ofString "row", L + 1)] outer) (eval (.ListComp (.Name (Str.ofString "record") p1) [⟨.Name (Str.ofString "record") p2, .Name (Str.ofString "row") p3, [.Compare (.Name (Str.ofString "agent") p4) [.NotIn] [.Subscript (.Name (Str.ofString "record") p5) (.Constant (.int 0) 0 p6) p7] p8], 0⟩] (scB m3) p9) (ltEnvA more m2 L ccd cA C)) Q E s := by
  w_top off
  revert X T
  unfold PG; k_fill
  intro X T
  refine ListComp_T (cl := [(Str.ofString "agent", cA)]) F (by with_unfolding_all rfl) (names3 (P := fun y => y.2 ≠ .cell) (by decide) (by decide) (by decide)) rfl (names3 (P := fun y => y.2 = .local → _) (fun _ => rfl) (fun _ => rfl) (fun h => by cases h)) rfl ?_
  refine lcf_cell (o := oR) N rfl mR hdR ?_ rfl rfl
  refine CompSrcT.ledger (by rfl) F N mD (by rw [sizeLine_eq]; simp only [List.size_toArray]; omega) fun g => ?_
  refine comp_indT (n := (List.toArray vq).size) (fun i ys news' => news' = base ∧ ys.length = (lacks a (dq.take i)).length) ?step (fun ys news' hI => ?fin) _ 0 [] base (Nat.zero_add _) ⟨rfl, rfl⟩
  case fin =>
    obtain ⟨rfl, hl⟩ := hI
    intro G h' tk' F' N' o1
    refine hret G ys h' tk' ?_ F' N' o1
    rw [hl, List.size_toArray, hlen, List.take_length]
  case step =>
    rintro i ys news' v I oI C2 oC2 D2 m₂ h' tk' E' hi ⟨rfl, hy⟩ hP hC' hx' F' N' off' ne'
    have hv : vq[i]? = some v := by simpa using hP
    obtain ⟨d, hd'⟩ : ∃ d, dq[i]? = some d := ⟨_, List.getElem?_eq_getElem (by rw [List.size_toArray] at hi; omega)⟩
    obtain ⟨l', la, lr, kk, ka, kr, dv, itsA, itsR, rfl, hm, hma, hsA, hdl, hmr, hiR⟩ := hrec i v d hv hd'
    have htake : dq.take (i + 1) = dq.take i ++ [d] := by
      rw [List.take_succ, hd']; rfl
    k_steps
    ((with_reducible show wpAny _ _ (subscriptTail _ _ (Value.ref _) (Value.int _ _)) _ _ _); k_dflt (refine' kim_list (by k_asm) (by exact List.Mem.tail _ (List.Mem.tail _ (List.Mem.tail _ hm))) (by exact rfl) (by exact rfl) (by decide) (by decide) (by exact rfl) ?_))
    k_steps
    have gla := (N' _ (.tail _ (.tail _ (.tail _ hma)))).1
    have src : LCg.SrcAt h₀ D (List.toArray vq) news' := .inr ⟨_, mD, rfl, _, rfl⟩
    refine notin_list_strs ⟨_, gla, rfl, _, rfl⟩ hsA (wpAny_truthy_bool ?_)
    have hlk : lacks a (dq.take (i + 1)) = lacks a (dq.take i) ++ (if (!d.ags.any fun x => x == a) = true then [d] else []) := by
      rw [htake]
      unfold lacks
      rw [List.filter_append]
      have e : d.ags.contains a = d.ags.any fun x => x == a := by rw [List.contains_eq_any_beq]; congr 1; funext x; exact BEq.comm
      rw [← e, List.filter_cons]
      rfl
    cases hc : (!d.ags.any fun x => x == a) with
    | true =>
      rw [if_pos rfl]
      rw [hc, if_pos rfl] at hlk
      k_steps
      exact ⟨_, _, news', rfl, F', N', off', src, rfl, by rw [hlk, List.length_append, List.length_append, hy]; rfl⟩
    | false =>
      rw [if_neg (by decide)]
      rw [hc, if_neg (by decide), List.append_nil] at hlk
      exact ⟨_, _, news', rfl, F', N', off', src, rfl, by rw [hlk]; exact hy⟩
end SLT2
section SLT3
open PySem PySem.W PyProof.Rows PySem.Calls
set_option Elab.async false
set_option maxRecDepth 100000
set_option maxHeartbeats 0
open LCg LCt
noncomputable abbrev innerE (m3 : List (Str × Const)) (p1 p2 p3 p4 p5 p6 p7 p8 p9 : Pos) : Expr := .ListComp (.Name (Str.ofString "record") p1) [⟨.Name (Str.ofString "record") p2, .Name (Str.ofString "row") p3, [.Compare (.Name (Str.ofString "agent") p4) [.NotIn] [.Subscript (.Name (Str.ofString "record") p5) (.Constant (.int 0) 0 p6) p7] p8], 0⟩] (scB m3) p9
theorem lt_test (w : World) (mean mg mb) (more m2 m3 : List (Str × Const)) (cA C : Addr) (oc : Obj) (a : Str) (ta : Tok) (hcA : oc.data = .cell (some (.str a ta))) (vq : List Value) (dq : List Dr) (hlen : vq.length = dq.length) (h64 : vq.length < 64) (k : Nat) (D : Addr) (oR : Obj) (p1 p2 p3 p4 p5 p6 p7 p8 p9 q1 q2 : Pos) (whole : Sem Value)
    (dp un : Nat) (gd : Option (List Code)) (ccd : Value) (outer : List Env) (A₀ : Around) (bs h₀ : Heap) (L : Addr) (m : Str → Option Value) (base : Led) (s : Shared) (Q : Bool → Shared → Prop) (E : Value → Shared → Prop) (hdR : oR.data = .cell (some (.ref D)))
    (B : Below A₀ bs outer h₀) (F : Fr h₀ L s.heap m) (X : (hK w.params).In h₀) (N : News h₀ L s.heap base) (T : Top VW LS mean mg mb h₀) (hdp : dp + 100 < 1000) (hun : un + 8 * 100 < 9900)
    (mR : (L + 1, oR) ∈ base) (mc : (cA, oc) ∈ base) (mD : (D, W.listOf (List.toArray vq) k) ∈ base) (hrec : ∀ (i : Nat) v d, vq[i]? = some v → dq[i]? = some d → DrAt base v d.ags d.dl d.row)
    (hret : ∀ G1 G2 ys h' tk', Fr h₀ L h' m → News h₀ L h' ((G2, W.listOf #[] 0) :: (G1, lst ys) :: base) → Off1 G1 base → (∀ p ∈ base, p.1 ≠ G2) → Q (decide (lacks a dq = [])) { s with heap := h', toks := tk' }) :
    wpAny (model PG w) (ktrTop dp un gd (Str.ofString "_law_text") (ltScope more) L 145 ccd [(Str.ofString "row", L + 1)] outer) (isTrue (.Compare (innerE m3 p1 p2 p3 p4 p5 p6 p7 p8 p9) [.Eq] [.List [] q1] q2) (ltEnvA more m2 L ccd cA C) whole) Q E s := by
  refine wpAny_isTrue_Compare1 ?_
  refine lt_inner w mean mg mb more m2 m3 cA C oc a ta hcA vq dq hlen h64 k D 0 oR p1 p2 p3 p4 p5 p6 p7 p8 p9 dp un gd ccd outer A₀ bs h₀ L m base s _ _ hdR B F X N T hdp hun mR mc mD hrec fun G1 ys h1 tk1 hl F1 N1 o1 => ?_
  refine wpAny_List_spliced (args_nil ⟨(by show 0 ≤ sizeLine; exact Nat.zero_le _), ?_⟩)
  have N2 := N1.push F1 (W.listOf #[] 0)
  have F2 := F1.push (W.listOf #[] 0)
  refine eq_nil (xs := ys) (k := ys.length) (kb := 0) (by k_units) (N2 _ (.tail _ (.head _))).1 (N2 _ (.head _)).1 (wpAny_truthy_bool ?_)
  have e : decide (ys = []) = decide (lacks a dq = []) := decide_eq_decide.mpr (by rw [← List.length_eq_zero_iff, ← List.length_eq_zero_iff, hl])
  rw [e]
  exact hret G1 h1.objs.size ys _ tk1 F2 N2 o1 fun p hp => Nat.ne_of_lt (Heap.lt_size (N1 p (.tail _ hp)).1)
theorem off1_all {D : Addr} : ∀ {l : Led}, Off1 D l → ∀ p ∈ l, p.1 ≠ D
  | [], _, _, h => nomatch h
  | _ :: _, x, p, h => by
    rcases List.mem_cons.mp h with rfl | h
    · exact x.1
    · exact off1_all x.2 p h
/-- the agents that all records have, in the first one's order -/
noncomputable def keepAgs (dq : List Dr) : List Str := (dq.headD noDr).ags.filter fun a => decide (lacks a dq = [])
theorem strs_get {its : List Value} {ss : List Str} (h : StrsAre its ss) {i : Nat} {v : Value} (e : its[i]? = some v) : ∃ a t, v = .str a t ∧ ss[i]? = some a := by
  induction h generalizing i with
  | nil => simp at e
  | cons a t r ih =>
    cases i with
    | zero => simp at e; exact ⟨_, _, e.symm, rfl⟩
    | succ i => exact ih (by simpa using e)
theorem strs_snoc {its : List Value} {ss : List Str} (h : StrsAre its ss) (a : Str) (t : Tok) : StrsAre (its ++ [.str a t]) (ss ++ [a]) := by
  induction h with
  | nil => exact .cons _ _ .nil
  | cons b u r ih => exact .cons _ _ ih
set_option hygiene false in
local macro_rules | `(tactic| walk_at "subscriptTail") => `(tactic| ((with_reducible show wpAny _ _ (subscriptTail _ _ (Value.ref _) (Value.int _ _)) _ _ _); k_dflt (refine' kim_list (by k_asm) (by first | exact mD | exact hm) (by exact rfl) (by exact rfl) (by decide) (by decide) (by first | exact hv0 | exact rfl) ?_)))
theorem lt_agents (w : World) (mean mg mb) (more m2 m3 : List (Str × Const)) (vq : List Value) (dq : List Dr) (hlen : vq.length = dq.length) (h1 : 1 ≤ vq.length) (h64 : vq.length < 64) (hags : ∀ d ∈ dq, d.ags.length ≤ 3) (k : Nat) (D : Addr) (oR : Obj) (p1 p2 p3 p4 p5 p6 p7 p8 p9 q1 q2 r1 r2 r3 r4 r5 r6 r7 r8 r9 r10 : Pos)
    (dp un : Nat) (gd : Option (List Code)) (ccd : Value) (outer : List Env) (A₀ : Around) (bs h₀ : Heap) (L : Addr) (m : Str → Option Value) (base : Led) (s : Shared) (Q : Flow → Shared → Prop) (E : Value → Shared → Prop) (hdR : oR.data = .cell (some (.ref D)))
    (hsw : swapsWith (.ListComp (.Name (Str.ofString "agent") r2) [⟨.Name (Str.ofString "agent") r3, .Subscript (.Subscript (.Name (Str.ofString "row") r4) (.Constant (.int 0) 0 r5) r6) (.Constant (.int 0) 0 r7) r8, [.Compare (innerE m3 p1 p2 p3 p4 p5 p6 p7 p8 p9) [.Eq] [.List [] q1] q2], 0⟩] (scA m2) r9) (some (.Name (Str.ofString "agents") r1)) r10.line (ltEnv more L ccd) = pure true)
    (B : Below A₀ bs outer h₀) (F : Fr h₀ L s.heap m) (X : (hK w.params).In h₀) (N : News h₀ L s.heap base) (T : Top VW LS mean mg mb h₀) (hdp : dp + 100 < 1000) (hun : un + 8 * 100 < 9900)
    (mR : (L + 1, oR) ∈ base) (mD : (D, W.listOf (List.toArray vq) k) ∈ base) (hrec : ∀ (i : Nat) v d, vq[i]? = some v → dq[i]? = some d → DrAt base v d.ags d.dl d.row)
    (hret : ∀ G its W' h' tk', Fr h₀ L h' (fun u => if u = Str.ofString "agents" then some (.ref G) else m u) → News h₀ L h' ((G, lst its) :: W') → Off1 G W' → (∀ p ∈ base, p ∈ W') → StrsAre its (keepAgs dq) → Q .next { s with heap := h', toks := tk' }) :
    wpAny (model PG w) (ktrTop dp un gd (Str.ofString "_law_text") (ltScope more) L 145 ccd [(Str.ofString "row", L + 1)] outer) (exec (.Assign [.Name (Str.ofString "agents") r1] (.ListComp (.Name (Str.ofString "agent") r2) [⟨.Name (Str.ofString "agent") r3, .Subscript (.Subscript (.Name (Str.ofString "row") r4) (.Constant (.int 0) 0 r5) r6) (.Constant (.int 0) 0 r7) r8, [.Compare (innerE m3 p1 p2 p3 p4 p5 p6 p7 p8 p9) [.Eq] [.List [] q1] q2], 0⟩] (scA m2) r9) r10) (ltEnv more L ccd)) Q E s := by
  w_top off
  revert X T
  unfold PG; k_fill
  intro X T
  have hv0' : ∃ v, vq[0]? = some v := ⟨_, List.getElem?_eq_getElem (by omega)⟩
  obtain ⟨v0, hv0⟩ := hv0'
  obtain ⟨d0, hd0⟩ : ∃ d, dq[0]? = some d := ⟨_, List.getElem?_eq_getElem (by omega)⟩
  obtain ⟨l', la, lr, kk, ka, kr, dv, itsA, itsR, rfl, hm, hma, hsA, hdl, hmr, hiR⟩ := hrec 0 v0 d0 hv0 hd0
  have hhead : dq.headD noDr = d0 := by cases dq with | nil => simp at hd0 | cons x xs => simpa using hd0
  have hla : itsA.length ≤ 3 := by rw [hsA.length]; exact hags d0 (List.mem_of_getElem? hd0)
  refine Assign_ListComp_C (h₀ := h₀) (m := m) (L := L) (cl := [(Str.ofString "row", L + 1)]) rfl hsw (by with_unfolding_all rfl) (by decide) rfl rfl rfl ?_
  k_steps
  unfold Held
  refine ⟨la, List.toArray itsA, base, fun i ys news' => (∀ p ∈ base, p ∈ news') ∧ StrsAre ys ((d0.ags.take i).filter fun a => decide (lacks a dq = [])), rfl, ⟨rfl, F, N, .inr ⟨_, hma, rfl, _, rfl⟩, ?_, ⟨fun p hp => hp, .nil⟩, fun i ys nw h => h.1, ?_⟩, ?_⟩
  · rw [sizeLine_eq]; simp only [List.size_toArray]; omega
  · rintro i ys nw v oI oC I C cA D0 o h tk E' hi ⟨hsub, hys⟩ hiv ho F' N' off'
    have hv' : itsA[i]? = some v := by simpa using hiv
    obtain ⟨a, ta, rfl, ha⟩ := strs_get hsA hv'
    have htake : d0.ags.take (i + 1) = d0.ags.take i ++ [a] := by rw [List.take_succ, ha]; rfl
    refine wpAny_tests_one ?_
    refine lt_test w mean mg mb more m2 m3 cA C o a ta ho vq dq hlen h64 k D oR p1 p2 p3 p4 p5 p6 p7 p8 p9 q1 q2 _ dp un gd ccd outer A₀ bs h₀ L m _ _ _ _ hdR B F' X N' T hdp hun (.tail _ (.tail _ (.tail _ (.tail _ (hsub _ mR))))) (.tail _ (.tail _ (.tail _ (.head _)))) (.tail _ (.tail _ (.tail _ (.tail _ (hsub _ mD))))) (fun i v d e1 e2 => (hrec i v d e1 e2).mono fun p hp => .tail _ (.tail _ (.tail _ (.tail _ (hsub _ hp))))) fun G1 G2 zs h1 tk1 F1 N1 o1 ne2 => ?_
    have hfil : (d0.ags.take (i + 1)).filter (fun a => decide (lacks a dq = [])) = (d0.ags.take i).filter (fun a => decide (lacks a dq = [])) ++ (if decide (lacks a dq = []) = true then [a] else []) := by
      rw [htake, List.filter_append, List.filter_cons]; rfl
    have a1 := off1_all o1
    have N2 : News h₀ L h1 ((I, oI) :: (D0, lst ys) :: ([(C, oC), (cA, o)] ++ ((G2, W.listOf #[] 0) :: (G1, lst zs) :: nw))) := fun p hp => N1 p (by
      simp only [List.mem_cons, List.cons_append, List.nil_append] at hp ⊢
      rcases hp with h | h | h | h | h | h | h <;> simp [h])
    have o2 : OffG I D0 [C, cA] ((G2, W.listOf #[] 0) :: (G1, lst zs) :: nw) := fun p hp => by
      rcases List.mem_cons.mp hp with rfl | hp
      · refine ⟨(ne2 _ (.head _)).symm, (ne2 _ (.tail _ (.head _))).symm, ?_⟩
        simp only [List.mem_cons, List.not_mem_nil, or_false, not_or]
        exact ⟨(ne2 _ (.tail _ (.tail _ (.head _)))).symm, (ne2 _ (.tail _ (.tail _ (.tail _ (.head _))))).symm⟩
      · rcases List.mem_cons.mp hp with rfl | hp
        · refine ⟨(a1 _ (.head _)).symm, (a1 _ (.tail _ (.head _))).symm, ?_⟩
          simp only [List.mem_cons, List.not_mem_nil, or_false, not_or]
          exact ⟨(a1 _ (.tail _ (.tail _ (.head _)))).symm, (a1 _ (.tail _ (.tail _ (.tail _ (.head _))))).symm⟩
        · exact off' p hp
    have sub2 : ∀ p ∈ base, p ∈ (G2, W.listOf #[] 0) :: (G1, lst zs) :: nw := fun p hp => .tail _ (.tail _ (hsub p hp))
    cases hc : decide (lacks a dq = []) with
    | true =>
      rw [if_pos rfl]
      rw [hc, if_pos rfl] at hfil
      refine lcf_cell (o := o) N1 rfl (.tail _ (.tail _ (.tail _ (.tail _ (.tail _ (.head _)))))) ho ?_ rfl rfl
      exact ⟨h1, tk1, _, rfl, F1, N2, o2, trivial, sub2, by rw [hfil]; exact strs_snoc hys a ta⟩
    | false =>
      rw [if_neg (by decide)]
      rw [hc, if_neg (by decide), List.append_nil] at hfil
      exact ⟨h1, tk1, _, rfl, F1, N2, o2, trivial, sub2, by rw [hfil]; exact hys⟩
  · rintro G ys nw h tk ⟨hsub, hys⟩ F' N' o1
    refine hret G ys nw h tk F' N' o1 hsub ?_
    unfold keepAgs
    rw [hhead]
    rw [List.size_toArray, hsA.length, List.take_length] at hys
    exact hys
end SLT3
section SC6
local macro_rules | `(tactic| walk_at "none") => `(tactic| skip)
local macro_rules | `(tactic| walk_at "none") => `(tactic| skip)
open PySem PySem.W PyProof.Rows PySem.Calls
set_option Elab.async false
set_option maxRecDepth 100000
set_option maxHeartbeats 0
theorem news_dup {h₀ h : Heap} {L : Addr} {l news : Led} {p : Addr × Obj} (N : News h₀ L h l) (hs : ∀ q ∈ news, q ∈ l) (hp : p ∈ news) : News h₀ L h (p :: l) := fun q hq => by
  rcases List.mem_cons.mp hq with rfl | hq
  · exact N _ (hs _ hp)
  · exact N q hq
theorem ReadsMem' {h₀ h : Heap} {L D : Addr} {news : Led} {its : List Value} {k : Nat} (N : News h₀ L h news) (hm : (D, listOf its.toArray k) ∈ news) : h.IsList D its.toArray := ⟨_, (N _ hm).1, rfl, _, rfl⟩
structure NSt where
  o : Obj
  v : Int
  t : Tok
noncomputable def NumPost (h₀ : Heap) (L D c : Addr) (oD : Obj) (post own : Led) (x : PySem.Str) (m₀ : PySem.Str → Option Value) (v' : Int) (s : Shared) (f : Flow) (s₂ : Shared) : Prop :=
  (f = .next ∨ f = .cont) ∧ ∃ (h' : Heap) (tk' : Nat) (m' : PySem.Str → Option Value) (o' : Obj) (t' : Tok), s₂ = { s with heap := h', toks := tk' } ∧ Fr h₀ L h' m' ∧ News h₀ L h' ((D, oD) :: (c, o') :: (post ++ own)) ∧ (∀ z, z ≠ x → m' z = m₀ z) ∧ o'.data = .cell (some (.int v' t'))
theorem NumPost.intro {h₀ : Heap} {L D c : Addr} {oD : Obj} {post own : Led} {x : PySem.Str} {m₀ m' : PySem.Str → Option Value} {v' : Int} {s : Shared} {h' : Heap} {tk' : Nat} {o' : Obj} {t' : Tok}
    (F : Fr h₀ L h' m') (N : News h₀ L h' ((D, oD) :: (c, o') :: (post ++ own))) (e : ∀ z, z ≠ x → m' z = m₀ z) (hd : o'.data = .cell (some (.int v' t'))) : NumPost h₀ L D c oD post own x m₀ v' s .next { s with heap := h', toks := tk' } :=
  ⟨.inl rfl, h', tk', m', o', t', rfl, F, N, e, hd⟩
section
variable {prog : Program} {w : World} {A : Around} {E : Value → Shared → Prop} {s : Shared} {env : Env} {h₀ : Heap} {x : PySem.Str} {body : List Stmt} {Q : Flow → Shared → Prop}
theorem num_loop {l D c : Addr} {oD o₀ : Obj} {its : List Value} {ns : List Int} {k : Nat} {post : Led} {t0 : Tok} {m₀ : PySem.Str → Option Value} (step : Int → Int → Int) (hl : (l, listOf its.toArray k) ∈ post) (hh : A.handled = none) (hi : IntsAre its ns) (F : Fr h₀ env.locals s.heap m₀) (N : News h₀ env.locals s.heap ((D, oD) :: (c, o₀) :: post))
    (ho : o₀.data = .cell (some (.int 0 t0)))
    (turn : ∀ (o : Obj) (v n : Int) (t tn : Tok) h tk own, o.data = .cell (some (.int v t)) → (∀ p ∈ own, p.1 ≠ c) → Fr h₀ env.locals h (fun y => if y = x then some (.int n tn) else m₀ y) → News h₀ env.locals h ((D, oD) :: (c, o) :: (post ++ own)) →
      wpAny (model prog w) A (execs body env) (NumPost h₀ env.locals D c oD post own x m₀ (step v n) { s with heap := h, toks := tk }) E { s with heap := h, toks := tk })
    (done : ∀ (o : Obj) (t : Tok) (u : PySem.Str → Option Value) h tk, o.data = .cell (some (.int (ns.foldl step 0) t)) → Fr h₀ env.locals h (fun y => if y = x then u y else m₀ y) → News h₀ env.locals h ((D, oD) :: (c, o) :: post) → Q .next { s with heap := h, toks := tk }) :
    wpAny (model prog w) A (pyIter (.ref l)) (fun it s₂ => LoopAtV prog w A h₀ env x body Q E it s₂) E s := by
  refine kst_listL (σ := NSt) (fun c9 => (D, oD) :: (c, c9.o) :: post) (fun _ => []) (fun c9 => c9.o.data = .cell (some (.int c9.v c9.t))) [] (fun pre c9 => c9.v = pre.foldl step 0) ⟨o₀, 0, t0⟩ hh (fun _ => .tail _ (.tail _ hl)) hi F N ho (fun _ h => nomatch h) rfl ?_ ?_
  · rintro ⟨o, v, t⟩ pre post' n tn u h tk own e hn hoff hd hv F₁ N₁
    dsimp only at hd hv F₁ N₁
    refine wpAny_mono (turn o v n t tn h tk own hd (fun p hp => hoff p hp c (by simp)) (by simpa [kstB] using F₁) (by simpa using N₁)) (fun f s₂ hf => ?_) fun _ _ e => e
    obtain ⟨hfl, h', tk', m', o', t', rfl, F', N', e3, hd'⟩ := hf
    have fin : InvEndN h₀ env.locals (KstS (fun c9 : NSt => (D, oD) :: (c, c9.o) :: post) (fun _ => []) (fun c9 => c9.o.data = .cell (some (.int c9.v c9.t))) x [] m₀ (fun pre c9 => c9.v = pre.foldl step 0) (pre ++ [n])) own (((D, oD) :: (c, o₀) :: post).map (·.1)) { s with heap := h, toks := tk } { s with heap := h', toks := tk' } := by
      refine kst_end (s₁ := { s with heap := h, toks := tk }) ⟨o', step v n, t'⟩ F' N' ?_ ?_ rfl hd' (fun _ h => nomatch h) (fun z hz _ _ => e3 z hz) ?_
      · intro p hp
        rcases List.mem_cons.mp hp with rfl | hp
        · exact .head _
        · rcases List.mem_cons.mp hp with rfl | hp
          · exact .tail _ (.head _)
          · exact .tail _ (.tail _ (List.mem_append.mpr (.inl hp)))
      · intro p hp
        exact .tail _ (.tail _ (List.mem_append.mpr (.inr hp)))
      · show step v n = (pre ++ [n]).foldl step 0
        rw [List.foldl_append, ← hv]; rfl
    rcases hfl with rfl | rfl
    · exact fin
    · exact fin
  · rintro ⟨o, v, t⟩ u h tk hd hv F₁ N₁
    dsimp only at hd hv F₁ N₁
    subst hv
    exact done o t u h tk hd (by simpa [kstB] using F₁) N₁
end
theorem num_fold {row : List Int} (h : KBa.In row) : ∀ v : Int, 0 ≤ v → 0 ≤ row.foldl (fun v n => v * 256 + n) v ∧ row.foldl (fun v n => v * 256 + n) v < (v + 1) * 256 ^ row.length := by
  induction row with
  | nil => intro v hv; simp; omega
  | cons a row ih =>
    intro v hv
    have ha := h a (by simp)
    obtain ⟨h1, h2⟩ := ih (fun n hn => h n (by simp [hn])) (v * 256 + a) (by omega)
    refine ⟨h1, Int.lt_of_lt_of_le h2 ?_⟩
    rw [List.length_cons, Int.pow_succ, Int.mul_comm (256 ^ row.length) 256, ← Int.mul_assoc]
    have hp : (0 : Int) ≤ 256 ^ row.length := Int.pow_nonneg (by decide)
    exact Int.mul_le_mul_of_nonneg_right (by omega) hp
theorem num_bound {row : List Int} (h : KBa.In row) (h4 : row.length ≤ 4) : 0 ≤ row.foldl (fun v n => v * 256 + n) 0 ∧ row.foldl (fun v n => v * 256 + n) 0 < 4294967296 := by
  obtain ⟨h1, h2⟩ := num_fold h 0 (by decide)
  refine ⟨h1, Int.lt_of_lt_of_le h2 ?_⟩
  rcases (show row.length = 0 ∨ row.length = 1 ∨ row.length = 2 ∨ row.length = 3 ∨ row.length = 4 by omega) with e | e | e | e | e <;> rw [e] <;> decide
set_option hygiene false in
local macro_rules | `(tactic| walk_at "call builtin:len") => `(tactic| ((with_reducible show wpAny _ _ (call (Value.builtin "len") [Value.ref _]) _ _ _); k_dflt (refine' kst_len (by k_asm) (by k_mem) (by exact hnn) (by omega) ?_)))
local macro_rules | `(tactic| walk_at "exec For Name Name cons nil") => `(tactic| ((rename Fr _ _ _ _ => lF'); (with_unfolding_all refine' For_invVF lF' (by exact rfl) (by exact rfl) ?_; k_whole)))
local macro_rules | `(tactic| walk_at "eval ListComp") => `(tactic| (k_dflt (refine' ListComp_V (F₀ := (by k_asm)) (by with_unfolding_all rfl) (by decide) (by rfl) (by decide) (by rfl) ?_)))
theorem pow64_ne (k : Nat) : (64 : Int) ^ k ≠ 0 := Int.pow_ne_zero (by decide)
theorem pow64_log {k : Nat} (h : k < 7) : ((64 : Int) ^ k).natAbs.log2 < 9000 := by
  rcases (show k = 0 ∨ k = 1 ∨ k = 2 ∨ k = 3 ∨ k = 4 ∨ k = 5 ∨ k = 6 by omega) with rfl | rfl | rfl | rfl | rfl | rfl | rfl <;> decide
local macro_rules | `(tactic| walk_at "binaryOp FloorDiv int int") => `(tactic| (k_dflt (refine floordiv_int (pow64_ne _) ?_ (Or.inl (PyProof.noPylong_of_log2 (pow64_log (by omega)))))))
noncomputable abbrev SIGNS : Str := Str.ofString "ABCDEFGHIJKLMNOPQRSTUVWXYZabcdefghijklmnopqrstuvwxyz0123456789+/"
noncomputable def manyOf (n : Nat) : Int := (8 * (n : Int) + 5).fdiv 6
noncomputable def wrNum (row : List Int) : Int := row.foldl (fun v n => v * 256 + n) 0 * 2 ^ (6 * manyOf row.length - 8 * (row.length : Int)).toNat
noncomputable def wrSign (v : Int) (m : Int) (j : Nat) : Str := Txt.item SIGNS ((v.fdiv (64 ^ (m - 1 + (j : Int) * -1).toNat)).fmod 64)
/-- what _law_written writes -/
noncomputable def wrText (row : List Int) : Str := Txt.join (Str.ofString "") ((List.range (manyOf row.length).toNat).map (wrSign (wrNum row) (manyOf row.length)))
theorem range_snoc {f : Nat → Str} {ys : List Value} {i : Nat} {t : Tok} (h : StrsAre ys ((List.range i).map f)) : StrsAre (ys ++ [.str (f i) t]) ((List.range (i + 1)).map f) := by
  rw [List.range_succ, List.map_append]
  exact StrsAre.append' h (.cons _ _ .nil)
theorem wr_join_len (v m : Int) : ∀ my : Nat, my ≤ 6 → (((List.range my).map (wrSign v m)).map (fun x => x.length)).sum + ((List.range my).map (wrSign v m)).length * (Str.ofString "").length ≤ 16777216
  | 0, _ => Nat.le_of_ble_eq_true rfl
  | 1, _ => Nat.le_of_ble_eq_true rfl
  | 2, _ => Nat.le_of_ble_eq_true rfl
  | 3, _ => Nat.le_of_ble_eq_true rfl
  | 4, _ => Nat.le_of_ble_eq_true rfl
  | 5, _ => Nat.le_of_ble_eq_true rfl
  | 6, _ => Nat.le_of_ble_eq_true rfl
  | _ + 7, h => absurd h (by omega)
theorem many_of {nn : Nat} (h : nn = 1 ∨ nn = 2 ∨ nn = 3 ∨ nn = 4) : ∃ my : Nat, (8 * (nn : Int) + 5).fdiv 6 = (my : Int) ∧ 1 ≤ my ∧ my ≤ 6 ∧ 0 ≤ 6 * (my : Int) - 8 * (nn : Int) ∧ 6 * (my : Int) - 8 * (nn : Int) ≤ 4 := by
  rcases h with rfl | rfl | rfl | rfl
  · exact ⟨2, by decide⟩
  · exact ⟨3, by decide⟩
  · exact ⟨4, by decide⟩
  · exact ⟨6, by decide⟩
theorem rng_of : ∀ {my : Nat}, 1 ≤ my → my ≤ 6 → Builtin.Range.small ((my : Int) - 1) (-1) (-1) = true ∧ Builtin.Range.rangeSize ((my : Int) - 1) (-1) (-1) = ((my : Nat) : Int) ∧ my ≤ sizeLine
  | 0, h, _ => absurd h (by decide)
  | 1, _, _ => by decide
  | 2, _, _ => by decide
  | 3, _, _ => by decide
  | 4, _, _ => by decide
  | 5, _, _ => by decide
  | 6, _, _ => by decide
  | _ + 7, _, h => absurd h (by omega)
theorem t_writ (w : World) (mean mg mb) (ar : Addr) (its : List Value) (k : Nat) (row : List Int) (hi : IntsAre its row) (hrw : RowOk row) : Ct 50 w mean mg mb (.ref 140) [.ref ar] [] (fun news => (ar, listOf its.toArray k) ∈ news) (fun _ r => ∃ t, r = .str (wrText row) t) := by
  w_top off
  unfold Ct PG; k_fill
  intro dp un gd cn cs a ccd cl outer A₀ base h₀ L m news s Q E B F X N T hk hdp hun hpre hret
  have hlen : its.length = row.length := hi.length
  obtain ⟨nn, hnn⟩ : ∃ nn, its.length = nn := ⟨_, rfl⟩
  have hnum := num_bound hrw.isIn hrw.hi
  have hr1 := hrw.lo
  have hr2 := hrw.hi
  refine wpAny_call ?_
  k_dflt ((refine' code_defC (by k_asm) (by k_asm) (by k_asm) (by k_asm) (by k_asm) (by exact rfl) (by exact rfl) (by assumption) (by k_is) (by k_is) (by k_room) (by first | exact BindsTo.of_eq rfl | exact binds_K (by k_in) rfl (by k_is) rfl rfl rfl | fail "k_enter: no rule for these arguments") (by exact rfl) (by decide +kernel) ?_ (by exact rfl) (by exact rfl) (by exact rfl); k_whole; intro g' L' h' tk' cells' FG' F' N' Y' B' X' T' l1; (try k_lt l1); k_cells Y'; (try simp only [List.cons_append, List.nil_append] at N'); (try dsimp only); (try k_lift B'); (try k_fold)))
  k_steps
  k_dflt (refine' num_loop (l := ar) (its := its) (ns := row) (k := k) (fun v n => v * 256 + n) ?hl ?hh hi ?hF ?hN ?ho ?turn ?done)
  case hh => k_dflt rfl
  case hF => k_dflt k_asm
  case hN => k_dflt k_asm
  case ho => k_dflt assumption
  case hl => k_dflt k_mem
  case turn =>
    intro o v n t tn h tk own hd hown F₁ N₁
    simp only [List.cons_append] at N₁
    k_steps
    k_dflt (refine NumPost.intro (by k_asm) (by k_asm) ?e (by assumption))
    case e => 
      intro z hz
      simp [hz]
  case done =>
    intro o t u h tk hd F₁ N₁
    generalize hNum : row.foldl (fun v n => v * 256 + n) 0 = NUM at hd hnum
    have hn4 : nn = 1 ∨ nn = 2 ∨ nn = 3 ∨ nn = 4 := by omega
    obtain ⟨my, hmy, hm1, hm6, he0, he4⟩ := many_of hn4
    have hw : wrText row = Txt.join (Str.ofString "") ((List.range my).map (wrSign (NUM * 2 ^ (6 * (my : Int) - 8 * (nn : Int)).toNat) my)) := by
      unfold wrText wrNum manyOf
      rw [← hlen, hnn, hNum, hmy]
      rfl
    simp only [hmy] at F₁
    clear hmy hn4
    k_steps
    k_dflt (refine ⟨_, _, _, _, _, _, _, my, _, rfl, rfl, by k_asm, by k_asm, by assumption, (rng_of hm1 hm6).1, (rng_of hm1 hm6).2.1, (rng_of hm1 hm6).2.2, ?_⟩)
    rintro s₂ ⟨g, rfl⟩
    k_dflt (refine comp_ind0 (fun i ys nw => nw = _ ∧ StrsAre ys ((List.range i).map (wrSign (NUM * 2 ^ (6 * (my : Int) - 8 * (nn : Int)).toNat) my))) ?step ⟨rfl, .nil⟩ ?fin)
    case step =>
      rintro i ys nw v I oI C oC D m₂ h9 tk9 E9 hi9 ⟨rfl, hss⟩ ⟨tv, rfl⟩ hC hx9 F9 N9 off9 ne9
      k_steps
      k_dflt (refine LCg.CompEnd.intro (by k_asm) (by k_asm) _ ?sub off9 trivial ?r)
      case sub => exact fun p hp => hp
      case r => exact ⟨rfl, range_snoc hss⟩
    case fin =>
      rintro ys nw ⟨rfl, hss⟩
      k_steps
      k_dflt (refine join_list (items := ys.toArray) ?jl (by simpa using hss) (wr_join_len _ _ my hm6) ?_)
      case jl => k_dflt (exact ReadsMem' (its := ys) (by k_asm) (.head _))
      intro t8 k8
      k_steps
      k_dflt (exact hret _ [] _ _ (by k_asm) (News.sub0 (by k_asm) (fun p hp => by repeat (first | exact hp | apply List.mem_cons_of_mem))) Over.nil ⟨t8, by rw [hw]⟩)
end SC6
section SP2
open PySem PySem.W PyProof.Rows PySem.Calls
set_option Elab.async false
set_option maxRecDepth 100000
set_option maxHeartbeats 0
theorem wr_eq_check : rowsAll.all (fun r => decide (wrText r = wr64 r)) = true := by decide +kernel
theorem wr_eq {r : List Int} (h : r ∈ rowsAll) : wrText r = wr64 r := of_decide_eq_true (List.all_eq_true.mp wr_eq_check r h)
end SP2
section SLT4
open PySem PySem.W PyProof.Rows PySem.Calls
set_option Elab.async false
set_option maxRecDepth 100000
set_option maxHeartbeats 0
open LCg
noncomputable abbrev scD (m2 : List (Str × Const)) : Scope := { kind := .function, names := [(Str.ofString ".0", .local), (Str.ofString "others", .local), (Str.ofString "delay", .local), (Str.ofString "octets", .local)], isGenerator := false, isCoroutine := false, more := m2 }
noncomputable abbrev scW (m2 : List (Str × Const)) : Scope := { kind := .function, names := [(Str.ofString ".0", .local), (Str.ofString "others", .local), (Str.ofString "delay", .local), (Str.ofString "octets", .local), (Str.ofString "_law_written", .globalImplicit)], isGenerator := false, isCoroutine := false, more := m2 }
theorem tri_eq {h₀ h : Heap} {L : Addr} {base : Led} (N : News h₀ L h base) {t : Addr} {v1 v2 v3 u1 u2 u3 : Value} {n k : Nat} (m1 : (t, W.listOf #[v1, v2, v3] n) ∈ base) (m2 : (t, W.listOf #[u1, u2, u3] k) ∈ base) : v1 = u1 ∧ v2 = u2 ∧ v3 = u3 := by
  have e := (N _ m1).1.symm.trans (N _ m2).1
  have e1 := congrArg Obj.data (Option.some.inj e)
  simp only [Data.seq.injEq, Array.mk.injEq, List.cons.injEq, and_true] at e1
  exact ⟨e1.1.1, e1.1.2.1, e1.1.2.2⟩
theorem ints_snoc {its : List Value} {ns : List Int} (h : IntsAre its ns) (a : Int) (t : Tok) : IntsAre (its ++ [.int a t]) (ns ++ [a]) := by
  induction h with
  | nil => exact .cons _ _ .nil
  | cons b u r ih => exact .cons _ _ ih
theorem lt_delays (w : World) (mean mg mb) (more m2 : List (Str × Const)) (vq : List Value) (dq : List Dr) (hlen : vq.length = dq.length) (h64 : vq.length < 64) (k : Nat) (D : Addr) (oR : Obj) (r1 r2 r3 r4 r5 r6 r7 r8 r9 r10 r11 r12 : Pos)
    (dp un : Nat) (gd : Option (List Code)) (ccd : Value) (outer : List Env) (A₀ : Around) (bs h₀ : Heap) (L : Addr) (m : Str → Option Value) (base : Led) (s : Shared) (Q : Flow → Shared → Prop) (E : Value → Shared → Prop) (hdR : oR.data = .cell (some (.ref D)))
    (hsw : swapsWith (.ListComp (.Name (Str.ofString "delay") r2) [⟨.Tuple [.Name (Str.ofString "others") r3, .Name (Str.ofString "delay") r4, .Name (Str.ofString "octets") r5] 0 r6, .Name (Str.ofString "row") r7, [.Compare (.Name (Str.ofString "delay") r8) [.IsNot] [.Constant .none 0 r9] r10], 0⟩] (scD m2) r11) (some (.Name (Str.ofString "delays") r1)) r12.line (ltEnv more L ccd) = pure true)
    (B : Below A₀ bs outer h₀) (F : Fr h₀ L s.heap m) (X : (hK w.params).In h₀) (N : News h₀ L s.heap base) (T : Top VW LS mean mg mb h₀) (hdp : dp + 100 < 1000) (hun : un + 8 * 100 < 9900)
    (mR : (L + 1, oR) ∈ base) (mD : (D, W.listOf (List.toArray vq) k) ∈ base) (hrec : ∀ (i : Nat) v d, vq[i]? = some v → dq[i]? = some d → DrAt base v d.ags d.dl d.row)
    (hret : ∀ G its h' tk', Fr h₀ L h' (fun u => if u = Str.ofString "delays" then some (.ref G) else m u) → News h₀ L h' ((G, lst its) :: base) → Off1 G base → IntsAre its (dq.filterMap (·.dl)) → Q .next { s with heap := h', toks := tk' }) :
    wpAny (model PG w) (ktrTop dp un gd (Str.ofString "_law_text") (ltScope more) L 145 ccd [(Str.ofString "row", L + 1)] outer) (exec (.Assign [.Name (Str.ofString "delays") r1] (.ListComp (.Name (Str.ofString "delay") r2) [⟨.Tuple [.Name (Str.ofString "others") r3, .Name (Str.ofString "delay") r4, .Name (Str.ofString "octets") r5] 0 r6, .Name (Str.ofString "row") r7, [.Compare (.Name (Str.ofString "delay") r8) [.IsNot] [.Constant .none 0 r9] r10], 0⟩] (scD m2) r11) r12) (ltEnv more L ccd)) Q E s := by
  w_top off
  revert X T
  unfold PG; k_fill
  intro X T
  refine Assign_ListComp_3 (h₀ := h₀) (m := m) (L := L) (cl := []) rfl hsw (by with_unfolding_all rfl) (fun y hy => ?_) rfl (fun y hy hl => ?_) rfl rfl rfl (by decide) (by decide) (by decide) rfl rfl ?_
  · simp only [List.mem_cons, List.not_mem_nil, or_false] at hy
    rcases hy with rfl | rfl | rfl | rfl <;> simp
  · simp only [List.mem_cons, List.not_mem_nil, or_false] at hy
    rcases hy with rfl | rfl | rfl | rfl <;> rfl
  k_steps
  unfold Held
  refine ⟨D, List.toArray vq, base, base, fun i ys news' => news' = base ∧ IntsAre ys ((dq.take i).filterMap (·.dl)), rfl, ⟨rfl, F, N, .inr ⟨_, mD, rfl, _, rfl⟩, ?_, fun i v hv => ?_, fun p hp => hp, ⟨rfl, .nil⟩, fun i ys nw h p hp => h.1 ▸ hp, ?_⟩, ?_⟩
  · rw [sizeLine_eq]; simp only [List.size_toArray]; omega
  · have hv' : vq[i]? = some v := by simpa using hv
    have hi : i < vq.length := by
      rcases Nat.lt_or_ge i vq.length with x | x
      · exact x
      · rw [List.getElem?_eq_none x] at hv'; cases hv'
    obtain ⟨l', la, lr, kk, ka, kr, dv, itsA, itsR, rfl, hm, _⟩ := hrec i v _ hv' (List.getElem?_eq_getElem (hlen ▸ hi))
    exact ⟨l', _, _, _, kk, rfl, hm⟩
  · rintro i ys nw v t v1 v2 v3 n I oI C oC D0 m₂ h tk E' hi ⟨rfl, hys⟩ hiv rfl hmt hC' hx1' hx2' hx3' F' N' off' ne'
    have hv : vq[i]? = some (.ref t) := by simpa using hiv
    obtain ⟨d, hd'⟩ : ∃ d, dq[i]? = some d := ⟨_, List.getElem?_eq_getElem (by rw [List.size_toArray] at hi; omega)⟩
    obtain ⟨l', la, lr, kk, ka, kr, dv, itsA, itsR, e, hm, hma, hsA, hdl, hmr, hiR⟩ := hrec i _ d hv hd'
    cases e
    obtain ⟨rfl, rfl, rfl⟩ := tri_eq N hmt hm
    have htake : (dq.take (i + 1)).filterMap (·.dl) = (dq.take i).filterMap (·.dl) ++ (match d.dl with | some x => [x] | none => []) := by
      rw [List.take_succ, hd', List.filterMap_append]
      cases q : d.dl <;> simp [q]
    refine wpAny_tests_one ?_
    cases q : d.dl with
    | none =>
      rw [q] at hdl htake
      obtain rfl : v2 = .none := hdl
      k_steps
      exact ⟨_, _, nw, rfl, F', N', off', trivial, rfl, by rw [htake, List.append_nil]; exact hys⟩
    | some x =>
      rw [q] at hdl htake
      obtain ⟨tx, rfl⟩ : ∃ t, v2 = .int x t := hdl
      k_steps
      exact ⟨_, _, nw, rfl, F', N', off', trivial, rfl, by rw [htake]; exact ints_snoc hys _ _⟩
  · rintro G ys nw h tk ⟨rfl, hys⟩ F' N' o1
    refine hret G ys h tk F' N' o1 ?_
    rw [List.size_toArray, hlen, List.take_length] at hys
    exact hys
theorem wr_fits {r : List Int} (h : r ∈ rowsAll) : (Str.ofString "Allow: /").length + (wrText r).length ≤ sizeLine := by rw [wr_eq h]; exact line_fits (row_ok h)
theorem lt_allowed (w : World) (mean mg mb) (more m2 : List (Str × Const)) (vq : List Value) (dq : List Dr) (hlen : vq.length = dq.length) (h64 : vq.length < 64) (hrow : ∀ d ∈ dq, d.row ∈ rowsAll) (k : Nat) (D : Addr) (oR : Obj) (r1 r2 r3 r4 r5 r6 r7 r8 r9 r10 r11 r12 r13 : Pos)
    (dp un : Nat) (gd : Option (List Code)) (ccd : Value) (outer : List Env) (A₀ : Around) (bs h₀ : Heap) (L : Addr) (m : Str → Option Value) (base : Led) (s : Shared) (Q : Flow → Shared → Prop) (E : Value → Shared → Prop) (hdR : oR.data = .cell (some (.ref D)))
    (hsw : swapsWith (.ListComp (.BinOp (.Constant (.str (Str.ofString "Allow: /")) 0 r2) .Add (.Call (.Name (Str.ofString "_law_written") r3) [.Name (Str.ofString "octets") r4] [] r5) r6) [⟨.Tuple [.Name (Str.ofString "others") r7, .Name (Str.ofString "delay") r8, .Name (Str.ofString "octets") r9] 0 r10, .Name (Str.ofString "row") r11, [], 0⟩] (scW m2) r12) (some (.Name (Str.ofString "allowed") r1)) r13.line (ltEnv more L ccd) = pure true)
    (B : Below A₀ bs outer h₀) (F : Fr h₀ L s.heap m) (X : (hK w.params).In h₀) (N : News h₀ L s.heap base) (T : Top VW LS mean mg mb h₀) (hdp : dp + 100 < 1000) (hun : un + 8 * 100 < 9900)
    (mR : (L + 1, oR) ∈ base) (mD : (D, W.listOf (List.toArray vq) k) ∈ base) (hrec : ∀ (i : Nat) v d, vq[i]? = some v → dq[i]? = some d → DrAt base v d.ags d.dl d.row)
    (hret : ∀ G its W' h' tk', Fr h₀ L h' (fun u => if u = Str.ofString "allowed" then some (.ref G) else m u) → News h₀ L h' ((G, lst its) :: W') → Off1 G W' → (∀ p ∈ base, p ∈ W') → StrsAre its (dq.map fun d => lineOf d.row) → Q .next { s with heap := h', toks := tk' }) :
    wpAny (model PG w) (ktrTop dp un gd (Str.ofString "_law_text") (ltScope more) L 145 ccd [(Str.ofString "row", L + 1)] outer) (exec (.Assign [.Name (Str.ofString "allowed") r1] (.ListComp (.BinOp (.Constant (.str (Str.ofString "Allow: /")) 0 r2) .Add (.Call (.Name (Str.ofString "_law_written") r3) [.Name (Str.ofString "octets") r4] [] r5) r6) [⟨.Tuple [.Name (Str.ofString "others") r7, .Name (Str.ofString "delay") r8, .Name (Str.ofString "octets") r9] 0 r10, .Name (Str.ofString "row") r11, [], 0⟩] (scW m2) r12) r13) (ltEnv more L ccd)) Q E s := by
  revert X T
  unfold PG; k_fill
  intro X T
  refine Assign_ListComp_3 (h₀ := h₀) (m := m) (L := L) (cl := []) rfl hsw (by with_unfolding_all rfl) (fun y hy => ?_) rfl (fun y hy hl => ?_) rfl rfl rfl (by decide) (by decide) (by decide) rfl rfl ?_
  · simp only [List.mem_cons, List.not_mem_nil, or_false] at hy
    rcases hy with rfl | rfl | rfl | rfl | rfl <;> simp
  · simp only [List.mem_cons, List.not_mem_nil, or_false] at hy
    rcases hy with rfl | rfl | rfl | rfl | rfl
    · rfl
    · rfl
    · rfl
    · rfl
    · cases hl
  k_steps
  unfold Held
  refine ⟨D, List.toArray vq, base, base, fun i ys news' => (∀ p ∈ base, p ∈ news') ∧ StrsAre ys ((dq.take i).map fun d => lineOf d.row), rfl, ⟨rfl, F, N, .inr ⟨_, mD, rfl, _, rfl⟩, ?_, fun i v hv => ?_, fun p hp => hp, ⟨fun p hp => hp, .nil⟩, fun i ys nw h p hp => h.1 p hp, ?_⟩, ?_⟩
  · rw [sizeLine_eq]; simp only [List.size_toArray]; omega
  · have hv' : vq[i]? = some v := by simpa using hv
    have hi : i < vq.length := by
      rcases Nat.lt_or_ge i vq.length with x | x
      · exact x
      · rw [List.getElem?_eq_none x] at hv'; cases hv'
    obtain ⟨l', la, lr, kk, ka, kr, dv, itsA, itsR, rfl, hm, _⟩ := hrec i v _ hv' (List.getElem?_eq_getElem (hlen ▸ hi))
    exact ⟨l', _, _, _, kk, rfl, hm⟩
  · rintro i ys nw v t v1 v2 v3 n I oI C oC D0 m₂ h tk E' hi ⟨hsub, hys⟩ hiv rfl hmt hC' hx1' hx2' hx3' F' N' off' ne'
    have hv : vq[i]? = some (.ref t) := by simpa using hiv
    obtain ⟨d, hd'⟩ : ∃ d, dq[i]? = some d := ⟨_, List.getElem?_eq_getElem (by rw [List.size_toArray] at hi; omega)⟩
    have hrw := hrow d (List.mem_of_getElem? hd')
    obtain ⟨l', la, lr, kk, ka, kr, dv, itsA, itsR, e, hm, hma, hsA, hdl, hmr, hiR⟩ := hrec i _ d hv hd'
    cases e
    obtain ⟨rfl, rfl, rfl⟩ := tri_eq N hmt hm
    have C8 := t_writ w mean mg mb lr itsR kr d.row hiR (row_ok hrw)
    have P8 := List.Mem.tail (I, oI) (List.Mem.tail (C, oC) (List.Mem.tail (D0, lst ys) (hsub _ hmr)))
    have htake : (dq.take (i + 1)).map (fun d => lineOf d.row) = (dq.take i).map (fun d => lineOf d.row) ++ [lineOf d.row] := by
      rw [List.take_succ, hd', List.map_append]; rfl
    refine wpAny_tests_nil ?_
    rw [if_pos rfl]
    k_steps
    (k_dflt (refine add_str ?_ (wr_fits hrw)); intro t6 k6)
    k_steps
    have el : Str.ofString "Allow: /" ++ wrText d.row = lineOf d.row := by unfold lineOf; rw [wr_eq hrw]
    exact ⟨h9, k6, nw, rfl, F9, N9, off', trivial, hsub, by rw [htake, el]; exact strs_snoc hys _ _⟩
  · rintro G ys nw h tk ⟨hsub, hys⟩ F' N' o1
    refine hret G ys nw h tk F' N' o1 hsub ?_
    rw [List.size_toArray, hlen, List.take_length] at hys
    exact hys
end SLT4
section SF1
open PySem PySem.W PyProof.Rows PySem.Calls
set_option Elab.async false
set_option maxRecDepth 100000
set_option maxHeartbeats 0
theorem truthy_ne {prog : Program} {w : World} {A : Around} {E : Value → Shared → Prop} {s : Shared} {l : Addr} {items : List Value} {Q : Bool → Shared → Prop} (hl : s.heap.IsList l items.toArray) (h1 : 1 ≤ items.length) (h8 : items.length ≤ 8) (h : Q true { s with toks := s.toks + 1 + 1 }) : wpAny (model prog w) A (truthy (.ref l)) Q E s := by
  refine wpAny_truthy_list hl (by simp only [List.size_toArray]; omega) ?_
  have e : (!items.toArray.isEmpty) = true := by
    cases items with
    | nil => simp at h1
    | cons _ _ => rfl
  rw [e]; exact h
noncomputable def uaOf (a : Str) : Str := Str.ofString "User-agent: " ++ a
theorem allLt_allF {d : Addr} : ∀ {l : Led}, AllLt d l → ∀ p ∈ l, p.1 < d
  | [], _, _, h => nomatch h
  | _ :: _, x, p, h => by
    rcases List.mem_cons.mp h with rfl | h
    · exact x.1
    · exact allLt_allF x.2 p h
noncomputable def cdOf : Option Int → List Str
  | none => []
  | some i => [Str.ofString "Crawl-delay: " ++ Str.ofString (toString i)]
/-- the lines of a record's text -/
noncomputable def entLines (ags : List Str) (dl : Option Int) (lss : List Str) : List Str := ags.map uaOf ++ cdOf dl ++ lss
/-- a record's text -/
noncomputable def entText (ags : List Str) (dl : Option Int) (lss : List Str) : Str := if ags = [] then Str.ofString "" else Txt.join (Str.ofString "\n") (entLines ags dl lss)
theorem ags_nil {its : List Value} {ags : List Str} (hA : StrsAre its ags) (h : its = []) : ags = [] := by subst h; cases hA; rfl
theorem ags_cons {its : List Value} {ags : List Str} (hA : StrsAre its ags) (h : its ≠ []) : ags ≠ [] := by rintro rfl; cases hA; exact h rfl
theorem off1_of {D : Addr} : ∀ {news : Led}, (∀ p ∈ news, p.1 ≠ D) → LCg.Off1 D news
  | [], _ => trivial
  | _ :: _, h => ⟨h _ (.head _), off1_of fun p hp => h p (.tail _ hp)⟩
theorem t_str (w : World) (mean mg mb) (v : Value) (x : Addr) (its ls : List Value) (ags lss : List Str) (dv : Value) (dl : Option Int) (hA : StrsAre its ags) (hL : StrsAre ls lss) (hz1 : its.length ≤ 3) (hz2 : 1 ≤ ls.length) (hz3 : ls.length ≤ 8) (hag : ∀ a ∈ ags, a.length ≤ 1000) (hdv : DelIs dv dl) (hdl : ∀ i, dl = some i → 0 ≤ i ∧ i < 10) (hsum : ((entLines ags dl lss).map (·.length)).sum + (entLines ags dl lss).length ≤ 100000) : Ct 120 w mean mg mb (.ref 42) [.ref x] [] (fun news => EntAt w news (.ref x) its dv ls) (fun _ r => ∃ t, r = .str (entText ags dl lss) t) := by
  w_top off
  unfold Ct PG; k_fill
  intro dp un gd cn cs a ccd cl outer A₀ base h₀ L m news s Q E B F X N T hk hdp hun hpre hret
  obtain ⟨x', d, l1, l2, k1, k2, t1, t2, t3, t4, e, hx, hd, hl1, hl2⟩ := hpre
  cases e
  refine wpAny_call ?_
  k_dflt cell_enter
  k_steps
  (k_dflt (first | (refine' truthy_ne (items := ls) (ReadsMem ?N ?m) hz2 hz3 ?_; (case N => k_asm); (case m => k_mem)) | (refine' wpAny_truthy_list (items := its.toArray) (ReadsMem ?N ?m) (by (simp only [List.size_toArray]; omega)) ?_; (case N => k_asm); (case m => k_mem))))
  k_steps
  · have hnil : its = [] := by
      cases its with
      | nil => rfl
      | cons _ _ => simp_all
    k_dflt (exact hret _ [] _ _ (by k_asm) (News.sub0 (by k_asm) (fun p hp => by repeat (first | exact hp | apply List.mem_cons_of_mem))) Over.nil ⟨_, by rw [entText, if_pos (ags_nil hA hnil)] <;> rfl⟩)
  have hne : ags ≠ [] := ags_cons hA (by rintro rfl; simp_all)
  rename ∀ (p : Addr × Obj), p ∈ news → _ => lD
  have hnD := off1_of fun p hp => Nat.ne_of_lt (lD p hp)
  k_dflt (refine' grow_loop (D := ?D) uaOf hl1 ?hh hA .nil ?F ?N ?hD ?turn ?done)
  case hh => k_dflt rfl
  case F => k_dflt k_asm
  case N => k_dflt k_asm
  case hD => exact fun p hp => Nat.ne_of_lt (lD p hp)
  case turn =>
    intro a t vals n h tk own ha hlen hoD F₁ N₁
    have hla := hag a ha
    have hlen3 : vals.length ≤ 3 := by simpa using Nat.le_trans hlen (by simpa using hz1)
    k_steps
    k_dflt (refine GrowPost.intro (by k_asm) (by k_asm) ?e)
    case e =>
      intro z hz
      simp [hz]
  case done =>
    intro vals n u h tk hss F₁ N₁
    have hvl : vals.length ≤ 3 := by
      have e1 := hss.length
      have e2 := hA.length
      simp only [List.nil_append, List.length_map] at e1
      omega
    rcases dl with _ | i
    · obtain rfl := hdv
      k_steps
      (k_dflt (first | (refine' truthy_ne (items := ls) (ReadsMem ?N ?m) hz2 hz3 ?_; (case N => k_asm); (case m => k_mem)) | (refine' wpAny_truthy_list (items := its.toArray) (ReadsMem ?N ?m) (by (simp only [List.size_toArray]; omega)) ?_; (case N => k_asm); (case m => k_mem))))
      k_steps
      (k_dflt (refine' k_map (by k_asm) (by k_asm) (by k_mem) ⟨(by rfl), (by k_room), (by k_units)⟩ ?_); intro I9 T9 it9 h9 F9 N9 m1 m2 m3 m4 m5)
      k_steps
      ((try simp only [List.push_toArray] at N9); k_dflt (refine' k_extendmap (keep := news) (by k_asm) N9 (List.Mem.head _) (List.Mem.tail _ (List.Mem.head _)) (List.Mem.tail _ (List.Mem.tail _ (List.Mem.head _))) (List.Mem.tail _ (List.Mem.tail _ (List.Mem.tail _ (List.Mem.head _)))) (by k_mem) hL (by omega) (by ((try simp only [List.length_append, List.length_cons, List.length_nil]); omega)) (by rfl) m4 m5 (m3 (l2, _) (List.Mem.tail _ hl2)).symm (m1 _ (List.Mem.head _)) (m2 _ (List.Mem.head _)) (m3 _ (List.Mem.head _)) (Nat.ne_of_gt (lD _ hl2)) (fun p hp => ⟨List.Mem.tail _ (List.Mem.tail _ (List.Mem.tail _ (List.Mem.tail _ hp))), m3 p (List.Mem.tail _ hp), Nat.ne_of_lt (lD p hp)⟩) ?_); intro h8 tk8 c8 F8 N8)
      k_steps
      k_dflt (refine' join_list (ys := entLines ags none lss) (ReadsMem N8 (List.Mem.head _)) ?ji ?jo ?_)
      case ji => simpa [entLines, cdOf] using StrsAre.append' hss hL
      case jo => exact Nat.le_trans (Nat.add_le_add_left (Nat.le_of_eq (Nat.mul_one _)) _) (Nat.le_trans hsum (by decide))
      intro t8 k8
      k_steps
      k_dflt (refine hret _ [_] _ _ (by k_asm) (News.swap (by k_asm)) ?ov ⟨t8, by rw [entText, if_neg hne] <;> rfl⟩)
      case ov => exact Over.cons (fun q hq => Nat.ne_of_lt (lD q hq)) Over.nil
    obtain ⟨td, rfl⟩ := hdv
    obtain ⟨hi0, hi1⟩ := hdl i rfl
    k_steps
    (k_dflt (first | (refine' truthy_ne (items := ls) (ReadsMem ?N ?m) hz2 hz3 ?_; (case N => k_asm); (case m => k_mem)) | (refine' wpAny_truthy_list (items := its.toArray) (ReadsMem ?N ?m) (by (simp only [List.size_toArray]; omega)) ?_; (case N => k_asm); (case m => k_mem))))
    k_steps
    (k_dflt (refine' k_map (by k_asm) (by k_asm) (by k_mem) ⟨(by rfl), (by k_room), (by k_units)⟩ ?_); intro I9 T9 it9 h9 F9 N9 m1 m2 m3 m4 m5)
    k_steps
    ((try simp only [List.push_toArray] at N9); k_dflt (refine' k_extendmap (keep := news) (by k_asm) N9 (List.Mem.head _) (List.Mem.tail _ (List.Mem.head _)) (List.Mem.tail _ (List.Mem.tail _ (List.Mem.head _))) (List.Mem.tail _ (List.Mem.tail _ (List.Mem.tail _ (List.Mem.head _)))) (by k_mem) hL (by omega) (by ((try simp only [List.length_append, List.length_cons, List.length_nil]); omega)) (by rfl) m4 m5 (m3 (l2, _) (List.Mem.tail _ hl2)).symm (m1 _ (List.Mem.head _)) (m2 _ (List.Mem.head _)) (m3 _ (List.Mem.head _)) (Nat.ne_of_gt (lD _ hl2)) (fun p hp => ⟨List.Mem.tail _ (List.Mem.tail _ (List.Mem.tail _ (List.Mem.tail _ hp))), m3 p (List.Mem.tail _ hp), Nat.ne_of_lt (lD p hp)⟩) ?_); intro h8 tk8 c8 F8 N8)
    k_steps
    k_dflt (refine' join_list (ys := entLines ags (some i) lss) (ReadsMem N8 (List.Mem.head _)) ?ji ?jo ?_)
    case ji => simpa [entLines, cdOf] using StrsAre.append' (StrsAre.append' hss (StrsAre.cons _ _ .nil)) hL
    case jo => exact Nat.le_trans (Nat.add_le_add_left (Nat.le_of_eq (Nat.mul_one _)) _) (Nat.le_trans hsum (by decide))
    intro t8 k8
    k_steps
    k_dflt (refine hret _ [_] _ _ (by k_asm) (News.swap (by k_asm)) ?ov ⟨t8, by rw [entText, if_neg hne] <;> rfl⟩)
    case ov => exact Over.cons (fun q hq => Nat.ne_of_lt (lD q hq)) Over.nil
end SF1
section SLT5
local macro_rules | `(tactic| walk_at "none") => `(tactic| skip)
open PySem PySem.W PyProof.Rows PySem.Calls
set_option Elab.async false
set_option maxRecDepth 100000
set_option maxHeartbeats 0
open LCg
noncomputable abbrev scU (m2 : List (Str × Const)) : Scope := { kind := .function, names := [(Str.ofString ".0", .local), (Str.ofString "agent", .local)], isGenerator := false, isCoroutine := false, more := m2 }
noncomputable abbrev scS (m2 : List (Str × Const)) : Scope := { kind := .function, names := [(Str.ofString ".0", .local), (Str.ofString "delay", .local), (Str.ofString "str", .globalImplicit)], isGenerator := false, isCoroutine := false, more := m2 }
theorem ua_fits {a : Str} (h : a.length ≤ 1000) : (Str.ofString "User-agent: ").length + a.length ≤ sizeLine := by
  have e : (Str.ofString "User-agent: ").length = 12 := by decide
  rw [sizeLine_eq, e]; omega
set_option hygiene false in
local macro_rules | `(tactic| walk_at "binaryOp Add str str") => `(tactic| (k_dflt (refine add_str ?_ (ua_fits hal)); intro t6 k6))
theorem lt_ua (w : World) (mean mg mb) (more m2 : List (Str × Const)) (its : List Value) (ags : List Str) (hA : StrsAre its ags) (h64 : its.length < 64) (hag : ∀ a ∈ ags, a.length ≤ 1000) (k : Nat) (D : Addr) (r2 r3 r4 r5 r6 r7 : Pos)
    (dp un : Nat) (gd : Option (List Code)) (ccd : Value) (outer : List Env) (A₀ : Around) (bs h₀ : Heap) (L : Addr) (m : Str → Option Value) (base : Led) (s : Shared) (Q E : Value → Shared → Prop) (hm0 : m (Str.ofString "agents") = some (.ref D))
    (B : Below A₀ bs outer h₀) (F : Fr h₀ L s.heap m) (X : (hK w.params).In h₀) (N : News h₀ L s.heap base) (T : Top VW LS mean mg mb h₀) (hdp : dp + 100 < 1000) (hun : un + 8 * 100 < 9900) (mD : (D, W.listOf (List.toArray its) k) ∈ base)
    (hret : ∀ G its' h' tk', Fr h₀ L h' m → News h₀ L h' ((G, lst its') :: base) → Off1 G base → StrsAre its' (ags.map uaOf) → Q (.ref G) { s with heap := h', toks := tk' }) :
    wpAny (model PG w) (ktrTop dp un gd (Str.ofString "_law_text") (ltScope more) L 145 ccd [(Str.ofString "row", L + 1)] outer) (eval (.ListComp (.BinOp (.Constant (.str (Str.ofString "User-agent: ")) 0 r2) .Add (.Name (Str.ofString "agent") r3) r4) [⟨.Name (Str.ofString "agent") r5, .Name (Str.ofString "agents") r6, [], 0⟩] (scU m2) r7) (ltEnv more L ccd)) Q E s := by
  w_top off
  revert X T
  unfold PG; k_fill
  intro X T
  refine ListComp_U (cl := []) F (by with_unfolding_all rfl) (fun y hy => ?_) rfl (fun y hy hl => ?_) rfl ?_
  · simp only [List.mem_cons, List.not_mem_nil, or_false] at hy
    rcases hy with rfl | rfl <;> simp
  · simp only [List.mem_cons, List.not_mem_nil, or_false] at hy
    rcases hy with rfl | rfl <;> rfl
  refine nameX_L F hm0 ?_ rfl rfl
  refine CompSrc.ledger (by rfl) F N mD (by rw [sizeLine_eq]; simp only [List.size_toArray]; omega) fun g => ?_
  refine comp_ind0 (n := (List.toArray its).size) (fun i ys news' => news' = base ∧ StrsAre ys ((ags.take i).map uaOf)) ?step ⟨rfl, .nil⟩ (fun ys news' hI => ?fin)
  case fin =>
    obtain ⟨rfl, hys⟩ := hI
    intro G h' tk' F' N' o1
    rw [List.size_toArray, hA.length, List.take_length] at hys
    exact hret G ys h' tk' F' N' o1 hys
  case step =>
    rintro i ys nw v I oI C oC D0 m₂ h tk E' hi ⟨rfl, hys⟩ hiv hC' hx1' F' N' off' ne'
    have hv : its[i]? = some v := by simpa using hiv
    obtain ⟨a, ta, rfl, ha⟩ := strs_get hA hv
    have hal := hag a (List.mem_of_getElem? ha)
    have htake : (ags.take (i + 1)).map uaOf = (ags.take i).map uaOf ++ [uaOf a] := by rw [List.take_succ, ha, List.map_append]; rfl
    k_steps
    exact ⟨h, k6, nw, rfl, F', N', off', .inr ⟨_, mD, rfl, _, rfl⟩, rfl, by rw [htake]; exact strs_snoc hys _ _⟩
set_option hygiene false in
local macro_rules | `(tactic| walk_at "binaryOp Add str str") => `(tactic| (k_dflt (refine add_str ?_ (by first | exact cd_fits hi0 hi1 | (rw [sizeLine_eq]; decide))); intro t6 k6))
set_option hygiene false in
local macro_rules | `(tactic| walk_at "subscriptTail Name Slice ref ref") => `(tactic| refine halted hstop ?_)
theorem ten_nat : ∀ n : Nat, n < 10 → n = 0 ∨ n = 1 ∨ n = 2 ∨ n = 3 ∨ n = 4 ∨ n = 5 ∨ n = 6 ∨ n = 7 ∨ n = 8 ∨ n = 9 := by decide
theorem ten_cases {i : Int} (h0 : 0 ≤ i) (h1 : i < 10) : i = 0 ∨ i = 1 ∨ i = 2 ∨ i = 3 ∨ i = 4 ∨ i = 5 ∨ i = 6 ∨ i = 7 ∨ i = 8 ∨ i = 9 := by
  obtain ⟨n, rfl⟩ := Int.eq_ofNat_of_zero_le h0
  exact (ten_nat n (by omega)).imp (by rintro rfl; rfl) (.imp (by rintro rfl; rfl) (.imp (by rintro rfl; rfl) (.imp (by rintro rfl; rfl) (.imp (by rintro rfl; rfl) (.imp (by rintro rfl; rfl) (.imp (by rintro rfl; rfl) (.imp (by rintro rfl; rfl) (.imp (by rintro rfl; rfl) (by rintro rfl; rfl)))))))))
theorem cd_fits {i : Int} (h0 : 0 ≤ i) (h1 : i < 10) : (Str.ofString "Crawl-delay: ").length + (Str.ofString (toString i)).length ≤ sizeLine := by
  rw [sizeLine_eq]
  obtain rfl | rfl | rfl | rfl | rfl | rfl | rfl | rfl | rfl | rfl := ten_cases h0 h1
  all_goals decide
noncomputable def cdl (i : Int) : Str := Str.ofString "Crawl-delay: " ++ Str.ofString (toString i)
theorem ints_get {its : List Value} {ns : List Int} (h : IntsAre its ns) {i : Nat} {v : Value} (e : its[i]? = some v) : ∃ a t, v = .int a t ∧ ns[i]? = some a := by
  induction h generalizing i with
  | nil => simp at e
  | cons a t r ih =>
    cases i with
    | zero => simp at e; exact ⟨_, _, e.symm, rfl⟩
    | succ i => exact ih (by simpa using e)
theorem cd_last (ns : List Int) : (ns.drop (ns.length - 1)).map cdl = cdOf ns.getLast? := by
  rcases List.eq_nil_or_concat ns with rfl | ⟨l, a, rfl⟩
  · rfl
  · rw [List.concat_eq_append, List.length_append, List.length_singleton, Nat.add_sub_cancel, List.drop_left, List.getLast?_concat]
    rfl
theorem lt_cd (w : World) (mean mg mb) (more m2 : List (Str × Const)) (its : List Value) (ns : List Int) (hA : IntsAre its ns) (h64 : its.length < 64) (hns : ∀ i ∈ ns, 0 ≤ i ∧ i < 10) (k : Nat) (D : Addr) (r2 r3 r4 r5 r6 r7 r8 r9 r10 r11 r12 r13 : Pos)
    (dp un : Nat) (gd : Option (List Code)) (ccd : Value) (outer : List Env) (A₀ : Around) (bs h₀ : Heap) (L : Addr) (m : Str → Option Value) (base : Led) (s : Shared) (Q E : Value → Shared → Prop) (hm0 : m (Str.ofString "delays") = some (.ref D))
    (B : Below A₀ bs outer h₀) (F : Fr h₀ L s.heap m) (X : (hK w.params).In h₀) (N : News h₀ L s.heap base) (T : Top VW LS mean mg mb h₀) (hdp : dp + 100 < 1000) (hun : un + 8 * 100 < 9900) (mD : (D, W.listOf (List.toArray its) k) ∈ base)
    (hret : ∀ G its' W' h' tk', Fr h₀ L h' m → News h₀ L h' ((G, lst its') :: W') → Off1 G W' → (∀ p ∈ base, p ∈ W') → StrsAre its' (cdOf ns.getLast?) → Q (.ref G) { s with heap := h', toks := tk' }) :
    wpAny (model PG w) (ktrTop dp un gd (Str.ofString "_law_text") (ltScope more) L 145 ccd [(Str.ofString "row", L + 1)] outer) (eval (.ListComp (.BinOp (.Constant (.str (Str.ofString "Crawl-delay: ")) 0 r2) .Add (.Call (.Name (Str.ofString "str") r3) [.Name (Str.ofString "delay") r4] [] r5) r6) [⟨.Name (Str.ofString "delay") r7, .Subscript (.Name (Str.ofString "delays") r8) (.Slice (some (.UnaryOp .USub (.Constant (.int 1) 0 r9) r10)) none none r11) r12, [], 0⟩] (scS m2) r13) (ltEnv more L ccd)) Q E s := by
  revert X T
  unfold PG; k_fill
  intro X T
  refine ListComp_U (cl := []) F (by with_unfolding_all rfl) (fun y hy => ?_) rfl (fun y hy hl => ?_) rfl ?_
  · simp only [List.mem_cons, List.not_mem_nil, or_false] at hy
    rcases hy with rfl | rfl | rfl <;> simp
  · simp only [List.mem_cons, List.not_mem_nil, or_false] at hy
    rcases hy with rfl | rfl | rfl
    · rfl
    · rfl
    · cases hl
  have hstop := True.intro
  k_steps
  (k_dflt (refine' kmk_slice_ints (L := L) (lo := some (-1)) (hi := none) (c := (ns.drop (ns.length - 1)).length) (by k_asm) (by k_asm) (by exact ⟨_, (N _ mD).1, rfl, _, rfl⟩) (by kmk_part) (by kmk_part) hA (kmk_from_neg hA (by decide)) rfl ?_ (by with_unfolding_all rfl) (by kmk_pure) (by (rw [sizeLine_eq]; simp only [List.size_toArray]; omega))); intro D8 ws8 h8 F8 N8 l8 hW8 hc8 hl8)
  clear hstop
  k_steps
  obtain ⟨ms, hms⟩ : ∃ ms, ms = ns.drop (ns.length - 1) := ⟨_, rfl⟩
  have hW : IntsAre ws8 ms := by rw [hms]; exact hW8
  have hl1 : ws8.length ≤ 1 := by rw [hW.length, hms, List.length_drop]; omega
  refine CompSrc.ledger (by rfl) F8 N8 (.head _) (by rw [sizeLine_eq]; simp only [List.size_toArray]; omega) fun g => ?_
  refine comp_ind0 (n := (List.toArray ws8).size) (fun i ys news' => news' = (D8, W.listOf (List.toArray ws8) 0) :: base ∧ StrsAre ys ((ms.take i).map cdl)) ?step ⟨rfl, .nil⟩ (fun ys news' hI => ?fin)
  case fin =>
    obtain ⟨rfl, hys⟩ := hI
    intro G h' tk' F' N' o1
    rw [List.size_toArray, hW.length, List.take_length, hms, cd_last] at hys
    exact hret G ys _ h' tk' F' N' o1 (fun p hp => .tail _ hp) hys
  case step =>
    rintro i ys nw v I oI C oC D0 m₂ h tk E' hi ⟨rfl, hys⟩ hiv hC' hx1' F' N' off' ne'
    have hv : ws8[i]? = some v := by simpa using hiv
    obtain ⟨x, tx, rfl, ha⟩ := ints_get hW hv
    have hx := hns x (List.mem_of_mem_drop (by rw [← hms]; exact List.mem_of_getElem? ha))
    obtain ⟨hi0, hi1⟩ := hx
    have htake : (ms.take (i + 1)).map cdl = (ms.take i).map cdl ++ [cdl x] := by rw [List.take_succ, ha, List.map_append]; rfl
    k_steps
    exact ⟨h, k6, _, rfl, F', N', off', .inr ⟨_, .head _, rfl, _, rfl⟩, rfl, by rw [htake]; exact strs_snoc hys _ _⟩
end SLT5
section SLT6
open PySem PySem.W PyProof.Rows PySem.Calls
set_option Elab.async false
set_option maxRecDepth 100000
set_option maxHeartbeats 0
open LCg
theorem ne_nil {prog : Program} {w : World} {A : Around} {E : Value → Shared → Prop} {s : Shared} {a b : Addr} {xs : List Value} {k kb : Nat} {Q : Value → Shared → Prop} (hu : A.units < cLine) (ha : s.heap.get? a = some (W.listOf (List.toArray xs) k)) (hb : s.heap.get? b = some (W.listOf #[] kb)) (h : Q (.bool (!decide (xs = []))) s) :
    wpAny (model prog w) A (compareOp .NotEq (.ref a) (.ref b)) Q E s := by
  have la : s.heap.IsList a (List.toArray xs) := ⟨_, ha, rfl, _, rfl⟩
  have lb : s.heap.IsList b #[] := ⟨_, hb, rfl, _, rfl⟩
  cases xs with
  | nil => exact SeqAt.RcNeAt.lists (e := fun _ => true) la lb rfl hu (fun j h1 _ => absurd h1 (Nat.not_lt_zero _)) prog w E Q h
  | cons x xs => exact SeqAt.RcNeAt.lists_lengths la lb (by simp) hu prog w E Q h
noncomputable abbrev uaE (m2 : List (Str × Const)) (r2 r3 r4 r5 r6 r7 : Pos) : Expr := .ListComp (.BinOp (.Constant (.str (Str.ofString "User-agent: ")) 0 r2) .Add (.Name (Str.ofString "agent") r3) r4) [⟨.Name (Str.ofString "agent") r5, .Name (Str.ofString "agents") r6, [], 0⟩] (scU m2) r7
noncomputable abbrev cdE (m2 : List (Str × Const)) (r2 r3 r4 r5 r6 r7 r8 r9 r10 r11 r12 r13 : Pos) : Expr := .ListComp (.BinOp (.Constant (.str (Str.ofString "Crawl-delay: ")) 0 r2) .Add (.Call (.Name (Str.ofString "str") r3) [.Name (Str.ofString "delay") r4] [] r5) r6) [⟨.Name (Str.ofString "delay") r7, .Subscript (.Name (Str.ofString "delays") r8) (.Slice (some (.UnaryOp .USub (.Constant (.int 1) 0 r9) r10)) none none r11) r12, [], 0⟩] (scS m2) r13
theorem lt_lines (w : World) (mean mg mb) (more m2 m3 : List (Str × Const)) (itsA itsD itsL : List Value) (ags als : List Str) (ns : List Int) (hA : StrsAre itsA ags) (hDl : IntsAre itsD ns) (hLs : StrsAre itsL als) (zA : itsA.length ≤ 3) (zD : itsD.length ≤ 8) (zL : itsL.length ≤ 8) (hag : ∀ a ∈ ags, a.length ≤ 1000) (hns : ∀ i ∈ ns, 0 ≤ i ∧ i < 10) (kA kD kL : Nat) (GA GD GL : Addr)
    (a1 a2 a3 a4 a5 a6 b1 b2 b3 b4 b5 b6 b7 b8 b9 b10 b11 b12 r1 r2 r3 r4 r5 : Pos)
    (dp un : Nat) (gd : Option (List Code)) (ccd : Value) (outer : List Env) (A₀ : Around) (bs h₀ : Heap) (L : Addr) (m : Str → Option Value) (base : Led) (s : Shared) (Q : Flow → Shared → Prop) (E : Value → Shared → Prop)
    (hm0 : m (Str.ofString "agents") = some (.ref GA)) (hm1 : m (Str.ofString "delays") = some (.ref GD)) (hm2 : m (Str.ofString "allowed") = some (.ref GL))
    (B : Below A₀ bs outer h₀) (F : Fr h₀ L s.heap m) (X : (hK w.params).In h₀) (N : News h₀ L s.heap base) (T : Top VW LS mean mg mb h₀) (hdp : dp + 100 < 1000) (hun : un + 8 * 100 < 9900) (mA : (GA, W.listOf (List.toArray itsA) kA) ∈ base) (mD : (GD, W.listOf (List.toArray itsD) kD) ∈ base) (mL : (GL, W.listOf (List.toArray itsL) kL) ∈ base)
    (hret : ∀ G its k W' h' tk', Fr h₀ L h' (fun u => if u = Str.ofString "lines" then some (.ref G) else m u) → News h₀ L h' W' → (∀ p ∈ base, p ∈ W') → (G, W.listOf (List.toArray its) k) ∈ W' → StrsAre its (entLines ags ns.getLast? als) → Q .next { s with heap := h', toks := tk' }) :
    wpAny (model PG w) (ktrTop dp un gd (Str.ofString "_law_text") (ltScope more) L 145 ccd [(Str.ofString "row", L + 1)] outer) (exec (.Assign [.Name (Str.ofString "lines") r1] (.BinOp (.BinOp (uaE m2 a1 a2 a3 a4 a5 a6) .Add (cdE m3 b1 b2 b3 b4 b5 b6 b7 b8 b9 b10 b11 b12) r2) .Add (.Name (Str.ofString "allowed") r3) r4) r5) (ltEnv more L ccd)) Q E s := by
  refine wpAny_Assign_Name ?_
  refine wpAny_BinOp (wpAny_BinOp (lt_ua w mean mg mb more m2 itsA ags hA (by omega) hag kA GA a1 a2 a3 a4 a5 a6 dp un gd ccd outer A₀ bs h₀ L m base s _ E hm0 B F X N T hdp hun mA fun G1 its1 h1 tk1 F1 N1 o1 s1 => ?_))
  refine lt_cd w mean mg mb more m3 itsD ns hDl (by omega) hns kD GD b1 b2 b3 b4 b5 b6 b7 b8 b9 b10 b11 b12 dp un gd ccd outer A₀ bs h₀ L m _ _ _ E hm1 B F1 X N1 T hdp hun (.tail _ mD) fun G2 its2 W2 h2 tk2 F2 N2 o2 sub2 s2 => ?_
  have z1 := s1.length
  have z2 := s2.length
  have zc : (cdOf ns.getLast?).length ≤ 1 := by cases ns.getLast? <;> simp [cdOf]
  have e1 := hA.length
  rw [List.length_map] at z1
  refine kmk_add_lit (its := List.toArray its1) (its2 := List.toArray its2) F2 N2 ⟨_, (N2 _ (.tail _ (sub2 _ (.head _)))).1, rfl, _, rfl⟩ ⟨_, (N2 _ (.head _)).1, rfl, _, rfl⟩ rfl (fun D3 h3 F3 N3 l3 => ?_) (by simp only [List.toList_toArray, sizeLine_eq]; omega)
  refine nameX_L F3 hm2 ?_ rfl rfl
  refine kmk_add_lit (its := List.toArray (its1 ++ its2)) (its2 := List.toArray itsL) F3 N3 ⟨_, (N3 _ (.head _)).1, rfl, _, rfl⟩ ⟨_, (N3 _ (.tail _ (.tail _ (sub2 _ (.tail _ mL))))).1, rfl, _, rfl⟩ rfl (fun D4 h4 F4 N4 l4 => ?_) (by simp only [List.toList_toArray, List.length_append, sizeLine_eq]; omega)
  refine storeX_L F4 N4 (fun h5 F5 N5 => ?_) rfl rfl
  refine hret D4 _ 0 _ h5 _ F5 N5 (fun p hp => .tail _ (.tail _ (.tail _ (sub2 _ (.tail _ hp))))) (.head _) ?_
  simpa [entLines] using StrsAre.append' (StrsAre.append' s1 s2) hLs
end SLT6
section SLT7
open PySem PySem.W PyProof.Rows PySem.Calls
set_option Elab.async false
set_option maxRecDepth 100000
set_option maxHeartbeats 0
open LCg
theorem last_none (itsD : List Value) (ns : List Int) (h : IntsAre itsD ns) : ∃ v, (Value.none :: itsD)[(-1 + (((Value.none :: itsD).length : Nat) : Int)).toNat]? = some v ∧ DelIs v ns.getLast? := by
  have e : (-1 + (((Value.none :: itsD).length : Nat) : Int)).toNat = itsD.length := by simp only [List.length_cons]; omega
  rw [e]
  rcases List.eq_nil_or_concat itsD with rfl | ⟨l, a, rfl⟩
  · cases h; exact ⟨.none, rfl, rfl⟩
  · have hl : (l.concat a)[l.length]? = some a := by rw [List.concat_eq_append]; simp
    obtain ⟨x, t, rfl, hx⟩ := ints_get h hl
    refine ⟨.int x t, ?_, ?_⟩
    · rw [List.length_concat, List.getElem?_cons_succ]; exact hl
    · have hn : ns.length = l.length + 1 := by rw [← h.length, List.length_concat]
      rw [List.getLast?_eq_getElem?, hn, Nat.add_sub_cancel, hx]
      exact ⟨t, rfl⟩
set_option hygiene false in
local macro_rules | `(tactic| walk_at "eval Name") => `(tactic| first
  | ((with_reducible show wpAny _ _ (eval (Expr.Name (Str.ofString "allowed") _) _) _ _ _); k_dflt (refine' nameX_L (by k_asm) hm2 ?_ rfl rfl))
  | ((with_reducible show wpAny _ _ (eval (Expr.Name (Str.ofString "lines") _) _) _ _ _); k_dflt (refine' nameX_L (by k_asm) hm3 ?_ rfl rfl)))
local macro_rules | `(tactic| ktr_member) => `(tactic| assumption)
theorem lt_ret (w : World) (mean mg mb) (more : List (Str × Const)) (itsA itsD itsL itsN : List Value) (ags als : List Str) (ns : List Int) (hA : StrsAre itsA ags) (hDl : IntsAre itsD ns) (hLs : StrsAre itsL als) (hNs : StrsAre itsN (entLines ags ns.getLast? als)) (zA : itsA.length ≤ 3) (zD : itsD.length ≤ 8) (zL : itsL.length ≤ 8) (hsum : ((entLines ags ns.getLast? als).map (·.length)).sum + (entLines ags ns.getLast? als).length ≤ 100000) (kA kD kL kN : Nat) (GA GD GL GN : Addr)
    (r1 r2 r3 r4 r5 r6 r7 r8 r9 r10 r11 r12 r15 r17 r18 r19 r20 : Pos)
    (dp un : Nat) (gd : Option (List Code)) (ccd : Value) (outer : List Env) (A₀ : Around) (bs h₀ : Heap) (L : Addr) (m : Str → Option Value) (base : Led) (s : Shared) (Q : Flow → Shared → Prop) (E : Value → Shared → Prop)
    (hm0 : m (Str.ofString "agents") = some (.ref GA)) (hm1 : m (Str.ofString "delays") = some (.ref GD)) (hm2 : m (Str.ofString "allowed") = some (.ref GL)) (hm3 : m (Str.ofString "lines") = some (.ref GN))
    (B : Below A₀ bs outer h₀) (F : Fr h₀ L s.heap m) (X : (hK w.params).In h₀) (N : News h₀ L s.heap base) (T : Top VW LS mean mg mb h₀) (hdp : dp + 100 < 1000) (hun : un + 8 * 100 < 9900) (mA : (GA, W.listOf (List.toArray itsA) kA) ∈ base) (mD : (GD, W.listOf (List.toArray itsD) kD) ∈ base) (mL : (GL, W.listOf (List.toArray itsL) kL) ∈ base) (mN : (GN, W.listOf (List.toArray itsN) kN) ∈ base)
    (hret : ∀ R dv t k W' h' tk', Fr h₀ L h' m → News h₀ L h' ((R, W.listOf #[.ref GA, dv, .ref GL, .str (entText ags ns.getLast? als) t] k) :: W') → (∀ p ∈ base, p ∈ W') → (∀ p ∈ base, p.1 ≠ R) → DelIs dv ns.getLast? → Q (.ret (.ref R)) { s with heap := h', toks := tk' }) :
    wpAny (model PG w) (ktrTop dp un gd (Str.ofString "_law_text") (ltScope more) L 145 ccd [(Str.ofString "row", L + 1)] outer) (exec (.Return (some (.List [.Name (Str.ofString "agents") r1, .Subscript (.BinOp (.List [.Constant .none 0 r2] r3) .Add (.Name (Str.ofString "delays") r4) r5) (.UnaryOp .USub (.Constant (.int 1) 0 r6) r7) r8, .Name (Str.ofString "allowed") r9,
      .IfExp (.Compare (.Name (Str.ofString "agents") r10) [.NotEq] [.List [] r11] r12) (.Call (.Attribute (.Constant (.str (Str.ofString "\n")) 0 ⟨153, 52, 153, 56⟩) (Str.ofString "join") ⟨153, 52, 153, 61⟩) [.Name (Str.ofString "lines") r15] [] ⟨153, 52, 153, 68⟩) (.Constant (.str (Str.ofString "")) 0 r17) r18] r19)) r20) (ltEnv more L ccd)) Q E s := by
  w_top off
  revert X T
  unfold PG; k_fill
  intro X T
  obtain ⟨vl, hvl, hvd⟩ := last_none itsD ns hDl
  k_steps
  (k_dflt (refine' kmk_add_lit (its := #[.none]) (its2 := List.toArray itsD) (by k_asm) (by k_asm) (ReadsMem (by k_asm) (by exact List.Mem.head _)) (ReadsMem (by k_asm) (by exact List.Mem.tail _ mD)) rfl ?_ (by (show 1 + itsD.length ≤ _; rw [sizeLine_eq]; omega))); intro G9 h9 F9 N9 l9; (try simp only [List.cons_append, List.nil_append] at N9))
  k_steps
  ((with_reducible show wpAny _ _ (subscriptTail _ _ (Value.ref _) (Value.int _ _)) _ _ _); k_dflt (refine' kim_back (l := .none :: itsD) (by k_asm) (by exact List.Mem.head _) (by exact rfl) (by exact rfl) (by decide) (by (simp only [List.length_cons]; omega)) (by decide) hvl ?_))
  k_steps
  ((rename News _ _ _ _ => N5); k_dflt (refine' ne_nil (xs := itsA) (k := kA) (kb := 0) (by k_units) (News.get N5 (by k_mem)) (News.get N5 (by exact List.Mem.head _)) ?_))
  k_steps
  · have hi : itsA = [] := by assumption
    have et : entText ags ns.getLast? als = Str.ofString "" := if_pos (ags_nil hA hi)
    rename News _ _ _ _ => NZ
    rename _ ∧ _ ∧ _ ∧ AllLt _ base => lZ
    rw [et] at hret
    exact hret _ vl _ 0 _ _ _ (by assumption) NZ (fun p hp => .tail _ (.tail _ (.tail _ hp))) (fun p hp => Nat.ne_of_lt (allLt_allF lZ.2.2.2 p hp)) hvd
  · (k_dflt (refine' join_list (ys := entLines ags ns.getLast? als) (items := List.toArray itsN) (ReadsMem (by k_asm) (by k_mem)) (by simpa using hNs) (by exact Nat.le_trans (Nat.add_le_add_left (Nat.le_of_eq (Nat.mul_one _)) _) (Nat.le_trans hsum (by decide))) ?_); intro t8 k8)
    k_steps
    have hi : ¬ itsA = [] := by assumption
    have et : entText ags ns.getLast? als = Txt.join (Str.ofString "\n") (entLines ags ns.getLast? als) := if_neg (ags_cons hA hi)
    rename News _ _ _ _ => NZ
    rename _ ∧ _ ∧ _ ∧ AllLt _ base => lZ
    rw [et] at hret
    exact hret _ vl _ 0 _ _ _ (by assumption) NZ (fun p hp => .tail _ (.tail _ (.tail _ hp))) (fun p hp => Nat.ne_of_lt (allLt_allF lZ.2.2.2 p hp)) hvd
end SLT7
section SLT8
open PySem PySem.W PyProof.Rows PySem.Calls
set_option Elab.async false
set_option maxRecDepth 100000
set_option maxHeartbeats 0
theorem news_mid {h₀ h : Heap} {L : Addr} {a b x t : Addr × Obj} {base tl : Led} (N : News h₀ L h ((a :: b :: x :: t :: base) ++ tl)) : News h₀ L h (x :: (a :: b :: t :: (base ++ tl))) := fun p hp => N p (by
  simp only [List.mem_cons, List.mem_append, List.cons_append] at hp ⊢
  rcases hp with h | h | h | h | h | h <;> simp [h])
theorem mid_ne {a b x t t' : Addr × Obj} {base tl : Led} (l91 : ∀ q ∈ x :: t' :: base, q.1 < b.1) (l92 : b.1 < a.1) (O : Over (a :: b :: x :: t :: base) tl) (hb : ∀ p ∈ base, p.1 ≠ x.1) (ht : t.1 ≠ x.1) : ∀ p ∈ a :: b :: t :: (base ++ tl), p.1 ≠ x.1 := fun p hp => by
  have lb := l91 x (.head _)
  rcases List.mem_cons.mp hp with rfl | hp
  · exact Nat.ne_of_gt (Nat.lt_trans lb l92)
  · rcases List.mem_cons.mp hp with rfl | hp
    · exact Nat.ne_of_gt lb
    · rcases List.mem_cons.mp hp with rfl | hp
      · exact ht
      · rcases List.mem_append.mp hp with hp | hp
        · exact hb p hp
        · exact (O x (.tail _ (.tail _ (.head _))) p hp).symm
theorem pack_mid {h₀ h : Heap} {L : Addr} {a b x y : Addr × Obj} {ps : Array Value} {base tl : Led} (N : News h₀ L h (x :: (a :: b :: (142, tabObj ps) :: (base ++ tl)))) (hy : y ∈ tl) :
    ∃ W, News h₀ L h W ∧ (∀ p ∈ base, p ∈ W) ∧ y ∈ W ∧ (∃ ps, (142, tabObj ps) ∈ W) ∧ x ∈ W :=
  ⟨_, N, fun p hp => .tail _ (.tail _ (.tail _ (.tail _ (List.mem_append_left _ hp)))), .tail _ (.tail _ (.tail _ (.tail _ (List.mem_append_right _ hy)))), ⟨ps, .tail _ (.tail _ (.tail _ (.head _)))⟩, .head _⟩
/-- the drawn in the order of their rows -/
noncomputable def ordD (ds : List Dr) : List Dr := (sortP ds.length (drLt rowLt ds)).map fun i => ds.getD i noDr
theorem ord_at {vs : List Value} {ds : List Dr} (hlen : vs.length = ds.length) (hn : 0 < vs.length) {i : Nat} {v : Value} {d : Dr} (e1 : ((sortP vs.length (drLt rowLt ds)).map fun i => vs.getD i .none)[i]? = some v) (e2 : (ordD ds)[i]? = some d) : ∃ j, j < vs.length ∧ vs[j]? = some v ∧ ds[j]? = some d := by
  unfold ordD at e2
  rw [← hlen] at e2
  rw [List.getElem?_map] at e1 e2
  obtain ⟨j, hj, rfl⟩ := Option.map_eq_some_iff.mp e1
  rw [hj] at e2
  have lj := sortP_lt hn (drLt rowLt ds) j (List.mem_of_getElem? hj)
  have lj2 : j < ds.length := hlen ▸ lj
  refine ⟨j, lj, ?_, ?_⟩
  · rw [List.getD_eq_getElem?_getD, List.getElem?_eq_getElem lj]; rfl
  · rw [← Option.some.inj e2]
    show ds[j]? = some (ds.getD j noDr)
    rw [List.getD_eq_getElem?_getD, List.getElem?_eq_getElem lj2]; rfl
theorem ord_mem {ds : List Dr} (hn : 0 < ds.length) {d : Dr} (h : d ∈ ordD ds) : d ∈ ds := by
  unfold ordD at h
  obtain ⟨j, hj, rfl⟩ := List.mem_map.mp h
  have lj := sortP_lt hn (drLt rowLt ds) j hj
  rw [List.getD_eq_getElem?_getD, List.getElem?_eq_getElem lj]
  exact List.getElem_mem lj
theorem fr_abs {g h : Heap} {L : Addr} {m : Str → Option Value} {x : Str} {v : Value} (F : Fr g L h (fun u => if u = x then some v else m u)) : ∃ m', Fr g L h m' ∧ m' x = some v ∧ ∀ y w, y ≠ x → m y = some w → m' y = some w := ⟨_, F, if_pos rfl, fun y w hy e => (if_neg hy).trans e⟩
theorem nm_here {x : Str} {v : Value} {m : Str → Option Value} : (fun u => if u = x then some v else m u) x = some v := if_pos rfl
theorem nm_skip {x y : Str} {v w : Value} {m : Str → Option Value} (h : y ≠ x) (e : m y = some w) : (fun u => if u = x then some v else m u) y = some w := (if_neg h).trans e
theorem keep_len {dq : List Dr} (h : ∀ d ∈ dq, d.ags.length ≤ 3) : (keepAgs dq).length ≤ 3 := by
  unfold keepAgs
  refine Nat.le_trans (List.length_filter_le _ _) ?_
  cases dq with
  | nil => exact Nat.zero_le _
  | cons d r => exact h d (.head _)
theorem keep_mem {dq : List Dr} (h : ∀ d ∈ dq, ∀ a ∈ d.ags, a.length ≤ 1000) : ∀ a ∈ keepAgs dq, a.length ≤ 1000 := fun a ha => by
  unfold keepAgs at ha
  have := (List.mem_filter.mp ha).1
  cases dq with
  | nil => cases this
  | cons d r => exact h d (.head _) a this
theorem sum_le {l : List Str} {k : Nat} (h : ∀ x ∈ l, x.length ≤ k) : (l.map (·.length)).sum ≤ k * l.length := by
  induction l with
  | nil => exact Nat.zero_le _
  | cons x r ih =>
    have := h x (.head _)
    have := ih fun y hy => h y (.tail _ hy)
    rw [List.map_cons, List.sum_cons, List.length_cons, Nat.mul_succ]
    omega
theorem cd_len {i : Int} (h0 : 0 ≤ i) (h1 : i < 10) : (Str.ofString "Crawl-delay: " ++ Str.ofString (toString i)).length ≤ 2000 := by
  obtain rfl | rfl | rfl | rfl | rfl | rfl | rfl | rfl | rfl | rfl := ten_cases (by assumption) (by assumption)
  all_goals decide
theorem line_len {r : List Int} (h : r ∈ rowsAll) : (lineOf r).length ≤ 2000 := by
  have e : (Str.ofString "Allow: /").length = 8 := by decide
  have := wr64_len (row_ok h)
  unfold lineOf
  rw [Str.length_append, e]; omega
theorem ent_sum {ags als : List Str} {ns : List Int} (hag : ∀ a ∈ ags, a.length ≤ 1000) (hns : ∀ i ∈ ns, 0 ≤ i ∧ i < 10) (zA : ags.length ≤ 3) (zL : als.length ≤ 8) (hal : ∀ x ∈ als, x.length ≤ 2000) : ((entLines ags ns.getLast? als).map (·.length)).sum + (entLines ags ns.getLast? als).length ≤ 100000 := by
  have hcd : (cdOf ns.getLast?).length ≤ 1 := by cases ns.getLast? <;> simp [cdOf]
  have hl : (entLines ags ns.getLast? als).length ≤ 12 := by
    unfold entLines
    rw [List.length_append, List.length_append, List.length_map]; omega
  have hb : ∀ x ∈ entLines ags ns.getLast? als, x.length ≤ 2000 := fun x hx => by
    unfold entLines at hx
    rcases List.mem_append.mp hx with hx | hx
    · rcases List.mem_append.mp hx with hx | hx
      · obtain ⟨a, ha, rfl⟩ := List.mem_map.mp hx
        have e : (Str.ofString "User-agent: ").length = 12 := by decide
        have := hag a ha
        unfold uaOf
        rw [Str.length_append, e]; omega
      · cases q : ns.getLast? with
        | none => rw [q] at hx; cases hx
        | some i =>
          rw [q] at hx
          obtain ⟨h0, h1⟩ := hns i (List.mem_of_getLast? q)
          rw [List.mem_singleton.mp hx]
          exact cd_len h0 h1
    · exact hal x hx
  have := sum_le hb
  omega
theorem t_text (w : World) (mean mg mb) (l : Addr) (k : Nat) (vs : List Value) (ds : List Dr) (hlen : vs.length = ds.length) (h3 : 3 ≤ vs.length) (h8 : vs.length ≤ 8) (hrow : ∀ d ∈ ds, d.row ∈ rowsAll)
    (dp un : Nat) (gd : Option (List Code)) (cn : Str) (cs : Scope) (a : Addr) (ccd : Value) (cl : List (Str × Addr)) (outer : List Env) (A₀ : Around) (bs h₀ : Heap) (L : Addr) (m : Str → Option Value) (base : Led) (s : Shared) (Q : Value → Shared → Prop) (E : Value → Shared → Prop)
    (B : Below A₀ bs outer h₀) (F : Fr h₀ L s.heap m) (X : (hK w.params).In h₀) (N : News h₀ L s.heap ((142, tabObj #[]) :: base)) (T : Top VW LS mean mg mb h₀) (C : CodeHd h₀ 144 142) (hk : cs.kind = .function) (hdp : dp + 200 < 1000) (hun : un + 8 * 200 < 9900) (hlt : ∀ p ∈ base, p.1 ≠ 142)
    (hl : (l, W.listOf (List.toArray vs) k) ∈ base) (hrec : ∀ (i : Nat) v d, vs[i]? = some v → ds[i]? = some d → DrAt base v d.ags d.dl d.row)
    (hags : ∀ d ∈ ds, d.ags.length ≤ 3 ∧ ∀ a ∈ d.ags, a.length ≤ 1000) (hdls : ∀ d ∈ ds, ∀ i, d.dl = some i → 0 ≤ i ∧ i < 10)
    (hret : ∀ R G1 G2 dv t k its1 its2 k1 k2 ps tl h' tk', Fr h₀ L h' m → News h₀ L h' ((142, tabObj ps) :: (base ++ tl)) → Over base tl → (∀ p ∈ tl, p.1 ≠ 142) → (R, W.listOf #[.ref G1, dv, .ref G2, .str (entText (keepAgs (ordD ds)) ((ordD ds).filterMap (·.dl)).getLast? ((ordD ds).map fun d => lineOf d.row)) t] k) ∈ tl →
      (G1, W.listOf (List.toArray its1) k1) ∈ tl → StrsAre its1 (keepAgs (ordD ds)) → DelIs dv ((ordD ds).filterMap (·.dl)).getLast? → (G2, W.listOf (List.toArray its2) k2) ∈ tl → StrsAre its2 ((ordD ds).map fun d => lineOf d.row) → Q (.ref R) { s with heap := h', toks := tk' }) :
    wpAny (model PG w) (ktrTop dp un gd cn cs L a ccd cl outer) (call (.ref 145) [.ref l]) Q E s := by
  w_top off
  revert X T C
  unfold PG; k_fill
  intro X T C
  refine wpAny_call ?_
  k_dflt ((refine' code_defC (by k_asm) (by k_asm) (by k_asm) (by k_asm) (by k_asm) (by exact rfl) (by exact rfl) (by assumption) (by k_is) (by k_is) (by k_room) (by first | exact BindsTo.of_eq rfl | exact binds_K (by k_in) rfl (by k_is) rfl rfl rfl | fail "k_enter: no rule for these arguments") (by exact rfl) (by decide +kernel) ?_ (by exact rfl) (by exact rfl) (by exact rfl); k_whole; intro g' L' h' tk' cells' FG' F' N' Y' B' X' T' l1; (try k_lt l1); k_cells Y'; (try simp only [List.cons_append, List.nil_append] at N'); (try dsimp only); (try k_lift B'); (try k_fold)))
  rename_i oR hoR
  have hoR' : oR.data = .cell none := hoR
  clear hoR
  k_steps
  ((k_dflt (refine' kla_eval (by exact rfl) ?_)); (k_dflt (refine' kla_nest (ps := #[]) (by k_asm) (by k_asm) (by k_asm) (by exact CodeHd.keeps C (Fr.keep (by assumption))) (by exact rfl) (by k_updF) trivial rfl (by exact rfl) ?_)); intro f9 c9 oc9 vs9 tq9 ctv9 h9 tk9 F9 N9 d91 d92 l91 l92; (try dsimp only at N9 l91 l92))
  k_steps
  (k_dflt (refine' t_dsorted w mean mg mb f9 c9 l oc9 vs9 tq9 _ _ ctv9 _ _ _ _ d91 d92 k vs ds hlen (by omega) (by omega) _ _ _ _ _ _ _ _ _ _ _ _ _ _ _ _ _ _ (by k_asm) (by k_asm) (by k_asm) N9 (by k_asm) (by k_dflt rfl) (by k_room) (by k_units) (by exact List.Mem.head _) (by exact List.Mem.tail _ (List.Mem.head _)) (by repeat (first | exact hl | apply List.Mem.tail)) (by exact fun i v d e1 e2 => (hrec i v d e1 e2).mono fun p hp => List.Mem.tail _ (List.Mem.tail _ (List.Mem.tail _ (List.Mem.tail _ hp)))) ?_); intro D9 k9 tl9 h8 tk8 F8 N8 O8 m8)
  k_steps
  have NW := news_mid N8
  have oW := mid_ne (x := (L' + 1, oR)) l91 l92 O8 (fun p hp => Nat.ne_of_lt (Nat.lt_succ_of_lt (allLt_all l1.2 p hp))) (Nat.ne_of_lt (Nat.lt_succ_of_lt l1.1))
  refine storeX_C (cn := Str.ofString "_law_text") (a := 145) (ccd := .ref 144) (cl := cellsFrom (L' + 1) _ []) (c := L' + 1) F8 NW rfl (.head oW) hoR' (fun hA oA FA NA dA => ?_) rfl rfl
  obtain ⟨W, NW', hWb, hWD, ⟨ps, hW142⟩, hWR⟩ := pack_mid NA m8
  show wpAny _ _ _ _ _ { s with heap := hA, toks := _ }
  clear NW oW N8 O8 m8 F8 N9 l91 l92 F9 N' F' hoR' d91 d92
  have hn : 0 < vs.length := by omega
  obtain ⟨vq, hvq⟩ : ∃ vq, vq = (sortP vs.length (drLt rowLt ds)).map fun i => vs.getD i .none := ⟨_, rfl⟩
  rw [← hvq] at hWD
  have lq : vq.length = (ordD ds).length := by rw [hvq, ordD, List.length_map, List.length_map, hlen]
  have lq2 : vq.length = vs.length := by rw [hvq, List.length_map, sortP_len hn]
  have hrq : ∀ (i : Nat) v d, vq[i]? = some v → (ordD ds)[i]? = some d → DrAt W v d.ags d.dl d.row := fun i v d e1 e2 => by
    obtain ⟨j, hj, ev, ed⟩ := ord_at hlen hn (hvq ▸ e1) e2
    exact (hrec j v d ev ed).mono hWb
  have inD : ∀ d ∈ ordD ds, d ∈ ds := fun d hd => ord_mem (hlen ▸ hn) hd
  refine wpAny_execs_cons (lt_agents w mean mg mb _ _ _ vq (ordD ds) lq (by omega) (by omega) (fun d hd => (hags d (inD d hd)).1) k9 D9 oA _ _ _ _ _ _ _ _ _ _ _ _ _ _ _ _ _ _ _ _ _ _ _ _ _ _ _ bs g' L' _ W _ _ _ dA (by with_unfolding_all rfl) B' FA X' NW' T' ?_ ?_ hWR hWD hrq fun GA itsA W1 h1 tk1 F1 N1 o1 sub1 sA => ?_)
  · show dp + 1 + 100 < 1000
    omega
  · show un + 3 + 8 * 100 < 9900
    omega
  show wpAny _ _ _ _ _ { s with heap := h1, toks := tk1 }
  obtain ⟨mA1, Fa, ea, _⟩ := fr_abs F1
  clear F1 FA
  refine wpAny_execs_cons (lt_delays w mean mg mb _ _ vq (ordD ds) lq (by omega) k9 D9 oA _ _ _ _ _ _ _ _ _ _ _ _ _ _ _ _ _ _ bs g' L' _ _ _ _ _ dA (by with_unfolding_all rfl) B' Fa X' N1 T' ?_ ?_ (.tail _ (sub1 _ hWR)) (.tail _ (sub1 _ hWD)) (fun i v d e1 e2 => (hrq i v d e1 e2).mono fun p hp => .tail _ (sub1 _ hp)) fun GD itsD h2 tk2 F2 N2 o2 sD => ?_)
  · show dp + 1 + 100 < 1000
    omega
  · show un + 3 + 8 * 100 < 9900
    omega
  show wpAny _ _ _ _ _ { s with heap := h2, toks := tk2 }
  obtain ⟨mB1, Fb, eb, sb⟩ := fr_abs F2
  have ea2 := sb _ _ (by decide) ea
  clear F2 Fa
  refine wpAny_execs_cons (lt_allowed w mean mg mb _ _ vq (ordD ds) lq (by omega) (fun d hd => hrow d (inD d hd)) k9 D9 oA _ _ _ _ _ _ _ _ _ _ _ _ _ _ _ _ _ _ _ bs g' L' _ _ _ _ _ dA (by with_unfolding_all rfl) B' Fb X' N2 T' ?_ ?_ (.tail _ (.tail _ (sub1 _ hWR))) (.tail _ (.tail _ (sub1 _ hWD))) (fun i v d e1 e2 => (hrq i v d e1 e2).mono fun p hp => .tail _ (.tail _ (sub1 _ hp))) fun GL itsL W3 h3' tk3 F3 N3 o3 sub3 sL => ?_)
  · show dp + 1 + 100 < 1000
    omega
  · show un + 3 + 8 * 100 < 9900
    omega
  show wpAny _ _ _ _ _ { s with heap := h3', toks := tk3 }
  obtain ⟨mC1, Fc, ec, sc⟩ := fr_abs F3
  have ea3 := sc _ _ (by decide) ea2
  have eb3 := sc _ _ (by decide) eb
  clear F3 Fb
  have zq : (ordD ds).length ≤ 8 := by omega
  have zA : itsA.length ≤ 3 := by rw [sA.length]; exact keep_len (fun d hd => (hags d (inD d hd)).1)
  have zD : itsD.length ≤ 8 := by rw [sD.length]; exact Nat.le_trans (List.length_filterMap_le _ _) zq
  have zL : itsL.length ≤ 8 := by rw [sL.length, List.length_map]; exact zq
  have hag : ∀ a ∈ keepAgs (ordD ds), a.length ≤ 1000 := fun a ha => keep_mem (fun d hd => (hags d (inD d hd)).2) a ha
  have hns : ∀ i ∈ (ordD ds).filterMap (·.dl), 0 ≤ i ∧ i < 10 := fun i hi => by
    obtain ⟨d, hd, e⟩ := List.mem_filterMap.mp hi
    exact hdls d (inD d hd) i e
  have mA : (GA, LCg.lst itsA) ∈ (GL, LCg.lst itsL) :: W3 := .tail _ (sub3 _ (.tail _ (.head _)))
  have mD : (GD, LCg.lst itsD) ∈ (GL, LCg.lst itsL) :: W3 := .tail _ (sub3 _ (.head _))
  refine wpAny_execs_cons ?_
  refine' lt_lines w mean mg mb _ _ _ itsA itsD itsL (keepAgs (ordD ds)) ((ordD ds).map fun d : Dr => lineOf d.row) ((ordD ds).filterMap (·.dl)) sA sD sL zA zD zL hag hns itsA.length itsD.length itsL.length GA GD GL _ _ _ _ _ _ _ _ _ _ _ _ _ _ _ _ _ _ _ _ _ _ _ _ _ _ _ _ _ bs g' L' mC1 ((GL, LCg.lst itsL) :: W3) _ _ _ ?kg1 ?kg2 ?kg3 ?kgB ?kgF ?kgX ?kgN ?kgT ?kg4 ?kg5 ?kgA ?kgD ?kgL ?kgR
  case kg1 => exact ea3
  case kg2 => exact eb3
  case kg3 => exact ec
  case kgB => exact B'
  case kgN => exact N3
  case kgF => exact Fc
  case kgX => exact X'
  case kgT => exact T'
  case kg4 =>
    show dp + 1 + 100 < 1000
    omega
  case kg5 =>
    show un + 3 + 8 * 100 < 9900
    omega
  case kgA => exact mA
  case kgD => exact mD
  case kgL => exact List.Mem.head _
  intro GN itsN kN W4 h4 tk4 F4 N4 sub4 mN sN
  show wpAny _ _ _ _ _ { s with heap := h4, toks := tk4 }
  obtain ⟨mD1, Fd, ed, sd⟩ := fr_abs F4
  have ea4 := sd _ _ (by decide) ea3
  have eb4 := sd _ _ (by decide) eb3
  have ec4 := sd _ _ (by decide) ec
  clear F4 Fc
  have hsum := ent_sum hag (ns := (ordD ds).filterMap (·.dl)) hns (als := (ordD ds).map fun d => lineOf d.row) (by rw [← sA.length]; exact zA) (by rw [List.length_map]; exact zq) (fun x hx => by
    obtain ⟨d, hd, rfl⟩ := List.mem_map.mp hx
    exact line_len (hrow d (inD d hd)))
  refine wpAny_execs_cons ?_
  apply lt_ret
  case hm0 => exact ea4
  case hm1 => exact eb4
  case hm2 => exact ec4
  case hm3 => exact ed
  case B => exact B'
  case N => exact N4
  case F => exact Fd
  case X => exact X'
  case T => exact T'
  case hA => exact sA
  case hDl => exact sD
  case hLs => exact sL
  case hNs => exact sN
  case zA => exact zA
  case zD => exact zD
  case zL => exact zL
  case hsum => exact hsum
  case hdp =>
    show dp + 1 + 100 < 1000
    omega
  case hun =>
    show un + 3 + 8 * 100 < 9900
    omega
  case mA => exact sub4 _ mA
  case mD => exact sub4 _ mD
  case mL => exact sub4 _ (List.Mem.head _)
  case mN => exact mN
  intro R dv t kR W5 h5 tk5 F5 N5 sub5 ne5 hdv
  k_steps
  rename News h₀ L _ _ => NZ
  rename Fr h₀ L _ _ => FZ
  have up1 : ∀ p ∈ W, p ∈ W3 := fun p hp => sub3 _ (.tail _ (.tail _ (sub1 _ hp)))
  have up : ∀ p ∈ W, p ∈ W4 := fun p hp => sub4 _ (.tail _ (up1 _ hp))
  have nA : ∀ p ∈ W, p.1 ≠ GA := fun p hp => off1_all o1 p (sub1 _ hp)
  have nL : ∀ p ∈ W, p.1 ≠ GL := fun p hp => off1_all o3 p (up1 _ hp)
  have nR : ∀ p ∈ W, p.1 ≠ R := fun p hp => ne5 p (up _ hp)
  have ntl : ∀ p ∈ W, ∀ q ∈ [(R, PySem.W.listOf #[Value.ref GA, dv, Value.ref GL, Value.str (entText (keepAgs (ordD ds)) ((ordD ds).filterMap (·.dl)).getLast? ((ordD ds).map fun d => lineOf d.row)) t] kR), (GA, LCg.lst itsA), (GL, LCg.lst itsL)], p.1 ≠ q.1 := fun p hp q hq => by
    simp only [List.mem_cons, List.not_mem_nil, or_false] at hq
    rcases hq with rfl | rfl | rfl
    · exact nR p hp
    · exact nA p hp
    · exact nL p hp
  have up5 : ∀ p ∈ W, p ∈ W5 := fun p hp => sub5 _ (up _ hp)
  refine hret R GA GL dv t kR itsA itsL _ _ ps [(R, _), (GA, LCg.lst itsA), (GL, LCg.lst itsL)] h5 tk5 FZ (fun p hp => ?_) (fun p hp q hq => ntl p (hWb p hp) q hq) (fun q hq => (ntl _ hW142 q hq).symm) (List.Mem.head _) (List.Mem.tail _ (List.Mem.head _)) sA hdv (List.Mem.tail _ (List.Mem.tail _ (List.Mem.head _))) sL
  have mA3 : (GA, LCg.lst itsA) ∈ W5 := sub5 _ (sub4 _ mA)
  have mL3 : (GL, LCg.lst itsL) ∈ W5 := sub5 _ (sub4 _ (List.Mem.head _))
  refine NZ p ?_
  rcases List.mem_cons.mp hp with rfl | hp
  · exact .tail _ (up5 _ hW142)
  rcases List.mem_append.mp hp with hp | hp
  · exact .tail _ (up5 _ (hWb p hp))
  rcases List.mem_cons.mp hp with rfl | hp
  · exact .head _
  rcases List.mem_cons.mp hp with rfl | hp
  · exact .tail _ mA3
  rw [List.mem_singleton.mp hp]
  exact .tail _ mL3
end SLT8
section SM2
local macro_rules | `(tactic| walk_at "none") => `(tactic| skip)
open PySem PySem.W PyProof.Rows PySem.Calls
set_option Elab.async false
set_option maxRecDepth 100000
set_option maxHeartbeats 0
/-- what a delay may be -/
noncomputable def DelV (v : Value) : Prop := v = .none ∨ ∃ i t, v = .int i t
noncomputable def pickD (dx : Value) : Value → Value
  | .none => dx
  | d => d
theorem mid_of {M : Model} {A : Around} {t : Sem Value} {Q E : Value → Shared → Prop} {s : Shared} {P : Value → Prop} (hm : wpAny M A t (fun v s' => P v ∧ ∃ tk, s' = { s with toks := tk }) E s) (hk : ∀ v tk, P v → Q v { s with toks := tk }) : wpAny M A t Q E s := wpAny_mono hm (fun v s' h => by
  obtain ⟨p, tk, e⟩ := h
  subst e
  exact hk v tk p) (fun _ _ x => x)
set_option hygiene false in
local macro_rules | `(tactic| walk_at "call type:filter") => `(tactic| refine halted hstop ?_)
set_option hygiene false in
local macro_rules | `(tactic| walk_at "call type:list") => `(tactic| refine halted hstop ?_)
set_option hygiene false in
local macro_rules | `(tactic| walk_at "getAttr ref") => `(tactic| ((with_reducible show wpAny _ _ (getAttr (Value.ref _) (PySem.Str.ofString "__contains__") _) _ _ _); refine halted hstop ?_))
set_option hygiene false in
local macro_rules | `(tactic| walk_at "eval IfExp") => `(tactic| refine halted hstop ?_)
theorem t_merge (w : World) (mean mg mb) (x y : Addr) (itsx lsx itsy lsy : List Value) (dx dy : Value) (sx sy : List Str) (hdx : DelV dx) (hdy : DelV dy) (hssx : StrsAre itsx sx) (hssy : StrsAre itsy sy) (hszx : itsx.length < 1000) (hszy : itsy.length < 1000) (hzx : lsx.length < 1000) (hzy : lsy.length < 1000) :
    Ct 120 w mean mg mb (.ref 70) [.ref x, .ref y] [] (fun news => EntAt w news (.ref x) itsx dx lsx ∧ EntAt w news (.ref y) itsy dy lsy) (fun news r => EntAt w news r (keptOf (memOf sy) itsx) (pickD dx dy) (lsx ++ lsy)) := by
  w_top off
  unfold Ct PG; k_fill
  intro dp un gd cn cs a ccd cl outer A₀ base h₀ L m news s Q E B F X N T hk hdp hun hpre hret
  obtain ⟨⟨x', d, l1, l2, k1, k2, t1, t2, t3, t4, e, hx, hd, h1, h2⟩, ⟨y', d', l1', l2', k1', k2', t1', t2', t3', t4', e', hx', hd', h1', h2'⟩⟩ := hpre
  cases e
  cases e'
  refine wpAny_call ?_
  k_dflt cell_enter
  k_steps
  (k_dflt (refine' k_set (by k_asm) (by k_asm) (by k_mem) hssy (by rfl) hszy ?_); intro S9 oS9 h9 tk9 F9 N9 lt9 hS9)
  have hstop := True.intro
  k_steps
  refine unhalt ?_
  ((with_reducible show wpAny _ _ (getAttr (Value.ref _) (PySem.Str.ofString "__contains__") _) _ _ _); k_dflt (refine' k_contains (by k_asm) (by k_asm) (by exact List.Mem.head _) hS9 ⟨(by rfl), (by k_room), (by k_units)⟩ ?_); intro a9 h8 tk8 F8 N8 ne8)
  k_steps
  (k_dflt (refine' k_filter (by k_asm) (by k_asm) (by exact List.Mem.head _) (by k_mem) ⟨(by rfl), (by k_room), (by k_units)⟩ ?_); intro I9 it9 h7 F7 N7 ne7 ne6 ne5)
  k_steps
  (k_dflt (refine' k_listfilter (by k_asm) (by k_asm) (.head _) (.tail _ (.head _)) (.tail _ (.tail _ (.head _))) (.tail _ (.tail _ (.tail _ (.head _)))) hS9 (by k_mem) hssx hszx (by rfl) ne5 (by exact (ne6 (l1, W.listOf itsx.toArray k1) (by k_mem)).symm) (by exact (ne6 (a9, boundSet S9) (.head _)).symm) (by exact (ne6 (S9, oS9) (.tail _ (.head _))).symm) (fun p hp => ⟨.tail _ (.tail _ (.tail _ (.tail _ hp))), ne6 p (.tail _ (.tail _ hp))⟩) ?_); intro D9 h6 tk6 c6 F6 N6 lt6; (try k_lt lt6))
  k_steps
  (k_dflt (refine' kmk_add_lit (its := lsx.toArray) (its2 := lsy.toArray) (by k_asm) (by k_asm) (ReadsMem (by k_asm) (by k_mem)) (ReadsMem (by k_asm) (by k_mem)) (by exact rfl) ?_ (by (simp only [List.toList_toArray, sizeLine_eq]; omega))); intro G9 h5 F5 N5 lt5; (try k_lt lt5))
  k_steps
  clear hstop
  (refine mid_of (P := fun v => v = pickD dx dy) (by (k_dflt (rcases hdy with rfl | ⟨i, t, rfl⟩)); (case inl => (k_dflt (rcases hdx with rfl | ⟨i, t, rfl⟩)) <;> (with_reducible refine IfExp_ ?_; k_steps; all_goals (k_dflt (first | exact rfl | exact ⟨_, rfl⟩ | exact ⟨rfl, _, rfl⟩)))); (case inr => (with_reducible refine IfExp_ ?_; k_steps; all_goals (k_dflt (first | exact rfl | exact ⟨_, rfl⟩ | exact ⟨rfl, _, rfl⟩))))) ?_; rintro _ tk0 rfl)
  k_steps
  k_dflt (refine hret _ [_, _, _, _, _, _] _ _ (by k_asm) (News.swap (by k_asm)) ?ov ?out)
  case ov =>
    k_dflt (refine Over.of (by assumption) ?_)
    repeat (first | exact True.intro | (refine And.intro ?_ ?_; · omega))
  case out => k_dflt (exact ⟨_, _, _, _, _, _, _, _, _, _, rfl, by k_mem, by k_mem, by k_mem, by k_mem⟩)
end SM2
section SC7
open PySem PySem.W PyProof.Rows PySem.Calls
set_option Elab.async false
set_option maxRecDepth 100000
set_option maxHeartbeats 0
local macro_rules | `(tactic| walk_at "exec For Name Name cons nil") => `(tactic| ((rename Fr _ _ _ _ => lF'); (with_unfolding_all refine' For_invVF lF' (by exact rfl) (by exact rfl) ?_; k_whole)))
theorem t_reduce2 (w : World) (mean mg mb) (kf : Nat) (f ax : Addr) (its : List Value) (k : Nat) (v0 : Value) (hx0 : its[0]? = some v0) (PreF : Led → Prop) (Rel : Nat → Led → Value → Prop) (monoP : ∀ a b : Led, (∀ p ∈ a, p ∈ b) → PreF a → PreF b)
    (hfo : ∀ news, PreF news → ∃ oc od fd sl, (f, (⟨oc, od, .func fd, sl⟩ : Obj)) ∈ news)
    (strip : ∀ i (l : Led) I oI b j v, LiIs oI b j → Rel i ((I, oI) :: l) v → Rel i l v)
    (hf : ∀ i v e, 1 ≤ i → its[i]? = some e → Ct kf w mean mg mb (.ref f) [v, e] [] (fun news => PreF news ∧ Rel i news v) (fun news r => Rel (i + 1) news r)) (base : ∀ news, PreF news → Rel 1 news v0) (monoR : ∀ i v (a b : Led), (∀ p ∈ a, p ∈ b) → Rel i a v → Rel i b v) :
    Ct (kf + 20) w mean mg mb (.ref 116) [.ref f, .ref ax] [] (fun news => PreF news ∧ (ax, listOf its.toArray k) ∈ news) (fun news r => Rel its.length news r) := by
  w_top off
  unfold Ct PG; k_fill
  intro dp un gd cn cs a ccd cl outer A₀ base' h₀ L m news s Q E B F X N T hk hdp hun hpre hret
  obtain ⟨hP, hax⟩ := hpre
  have hlen : 1 ≤ its.length := by
    rcases its with _ | ⟨_, _⟩
    · simp at hx0
    · simp
  refine wpAny_call ?_
  k_dflt ((refine' code_def (by k_asm) (by k_asm) (by k_asm) (by k_asm) (by k_asm) (by exact rfl) (by exact rfl) (by assumption) (by k_is) (by k_is) (by k_room) (by first | exact BindsTo.of_eq rfl | exact binds_K (by k_in) rfl (by k_is) rfl rfl rfl | fail "k_enter: no rule for these arguments") (by exact locs rfl) ?_ (by exact rfl) (by exact rfl) (by exact rfl) (by decide); k_whole; intro g' L' h' FG' F' N' B' X' T'; (try dsimp only); (try k_fold)))
  k_steps
  (k_dflt (refine' k_iter (its := its) (k := k) (by k_asm) (by k_asm) (by k_mem) ?_); intro I9 h9 F9 N9 lt9; (have hI9 := lt9); (try k_lt lt9))
  k_steps
  (k_dflt (refine' k_next (its := its) (k := k) (i := 0) (b := ax) (x := v0) (by k_asm) (by k_asm) (by k_updF) (by exact ⟨rfl, rfl⟩) (by k_mem) (by exact hx0) ?_); intro h8 o8 F8 N8 hi8)
  k_steps
  k_dflt (refine' red_loop (y := Str.ofString "value") (news := news) (its := its) (k := k) (b := ax) (v0 := v0) ?hxy ?hh hlen ?hF ?hN hi8 hax ?hI Rel (base _ hP) ?hv ?turn ?done)
  case hxy => decide
  case hh => k_dflt rfl
  case hF => k_dflt k_asm
  case hN => k_dflt k_asm
  case hI => k_dflt (exact all_ne_lt hI9)
  case hv => with_unfolding_all rfl
  case turn =>
    intro i v e tl h tk oI hi1 hie hli hO hoff hRel F₁ N₁
    have hP' : PreF (news ++ tl) := monoP _ _ (fun p hp => List.mem_append.mpr (.inl hp)) hP
    obtain ⟨oc, od, fd, sl, hfm⟩ := hfo _ hP'
    k_steps
    k_dflt (refine' callWith_F (q := f) ?k1 ?_)
    case k1 => k_dflt (exact FnAt.of (by k_asm) (List.mem_cons_of_mem _ hfm))
    k_steps
    k_dflt (refine' ct_use (hf i v e hi1 hie) ?k1 ?k2 ?k3 ?k4 ?k5 ?k6 ?k7 ?k8 ?pre ?_)
    case k1 => k_dflt k_asm
    case k2 => k_dflt k_asm
    case k3 => k_dflt k_asm
    case k4 => k_dflt k_asm
    case k5 => k_dflt k_asm
    case k6 => k_dflt rfl
    case k7 => k_dflt k_room
    case k8 => k_dflt k_units
    case pre => k_dflt (exact ⟨monoP _ _ (fun p hp => .tail _ hp) hP', monoR _ _ _ _ (fun p hp => .tail _ hp) hRel⟩)
    intro r9 tl9 h9 tk9 F9 N9 O9 o9
    obtain ⟨j, hli⟩ := hli
    have o8 := strip _ _ _ _ _ _ _ hli o9
    k_steps
    k_dflt (exact RedPost.intro (tl := tl9) (by k_asm) (by k_asm) O9 (by with_unfolding_all rfl) (fun z z1 z2 => by simp [z1, z2]) o8)
  case done =>
    intro v tl u h tk hO hRel F₁ N₁
    k_steps
    k_dflt (exact hret _ tl _ _ (by k_asm) (by k_asm) hO hRel)
end SC7
section SW1
local macro_rules | `(tactic| walk_at "none") => `(tactic| skip)
local macro_rules | `(tactic| walk_at "none") => `(tactic| skip)
open PySem PySem.W PyProof.Rows PySem.Calls
set_option Elab.async false
set_option maxRecDepth 100000
set_option maxHeartbeats 0
open LCg
noncomputable abbrev lwScope (more : List (Str × Const)) : Scope := { kind := .function, names := [(Str.ofString "script", .local), (Str.ofString "drawn", .local), (Str.ofString "records", .local), (Str.ofString "whole", .local), (Str.ofString "made", .local), (Str.ofString "reduce", .globalImplicit), (Str.ofString "sorted", .globalImplicit), (Str.ofString "cmp_to_key", .globalImplicit), (Str.ofString "_law_turn", .globalImplicit), (Str.ofString "str", .globalImplicit), (Str.ofString "_law_text", .globalImplicit)], isGenerator := false, isCoroutine := false, more := more }
noncomputable abbrev lwEnv (more : List (Str × Const)) (L fa : Addr) : Env := envX (Str.ofString "law") (lwScope more) L fa (.ref 149) []
noncomputable abbrev lwX (more : List (Str × Const)) : Scope := { kind := .function, names := [(Str.ofString ".0", .local), (Str.ofString "x", .local), (Str.ofString "_law_drawn", .globalImplicit)], isGenerator := false, isCoroutine := false, more := more }
noncomputable abbrev lw3 (g : Str) (more : List (Str × Const)) : Scope := { kind := .function, names := [(Str.ofString ".0", .local), (Str.ofString "agents", .local), (Str.ofString "delay", .local), (Str.ofString "row", .local), (g, .globalImplicit)], isGenerator := false, isCoroutine := false, more := more }
noncomputable abbrev lwM (more : List (Str × Const)) : Scope := { kind := .function, names := [(Str.ofString ".0", .local), (Str.ofString "record", .local)], isGenerator := false, isCoroutine := false, more := more }
noncomputable abbrev lwIt (a1 a2 a3 a4 a5 a6 a7 a8 a9 : Pos) : Expr := .BinOp (.Subscript (.Name (Str.ofString "script") a1) (.Slice none (some (.Constant (.int 5) 0 a2)) none a3) a4) .Add (.List [.Constant (.int 502) 0 a5, .Constant (.int 253) 0 a6, .Constant (.int 670) 0 a7] a8) a9
/-- the drawn numbers -/
noncomputable def drawnOf (ns : List Int) : List Int := ns.take 5 ++ [502, 253, 670]
local macro_rules | `(tactic| walk_at "CompSrc") => `(tactic| fail "stop")
theorem off3_app {I C D : Addr} {a b : Led} (h : Off3 I C D a) (hb : ∀ p ∈ b, p.1 ≠ I ∧ p.1 ≠ C ∧ p.1 ≠ D) : Off3 I C D (a ++ b) := by
  induction a with
  | nil =>
    induction b with
    | nil => trivial
    | cons p r ih => exact ⟨hb p (.head _), ih fun q hq => hb q (.tail _ hq)⟩
  | cons p r ih => exact ⟨h.1, ih h.2⟩
theorem off3_over {I C D : Addr} {oI oC oD : Obj} {a b : Led} (h : Off3 I C D a) (O : Over ((I, oI) :: (C, oC) :: (D, oD) :: a) b) : Off3 I C D (a ++ b) :=
  off3_app h fun p hp => ⟨(O _ (.head _) p hp).symm, (O _ (.tail _ (.head _)) p hp).symm, (O _ (.tail _ (.tail _ (.head _))) p hp).symm⟩
theorem DrAt.mono' {a b : Led} {v : Value} {ags : List Str} {dl : Option Int} {row : List Int} (h : DrAt a v ags dl row) (hs : ∀ p ∈ a, p ∈ b) : DrAt b v ags dl row := h.mono hs
theorem snoc_get {α : Type} {ys : List α} {y v : α} {i j : Nat} (hl : ys.length = i) (e : (ys ++ [y])[j]? = some v) : ys[j]? = some v ∨ (j = i ∧ v = y) := by
  subst hl
  rcases Nat.lt_trichotomy j ys.length with h | h | h
  · rw [List.getElem?_append_left h] at e
    exact .inl e
  · subst h
    rw [List.getElem?_append_right (Nat.le_refl _), Nat.sub_self] at e
    exact .inr ⟨rfl, (Option.some.inj e).symm⟩
  · rw [List.getElem?_append_right (Nat.le_of_lt h)] at e
    rw [List.getElem?_eq_none (by simp; omega)] at e
    cases e
theorem lw_drawn (w : World) (mean mg mb) (more m2 : List (Str × Const)) (ns : List Int) (its : List Value) (hI : IntsAre its ns) (l0 : Addr)
    (a1 a2 a3 a4 a5 a6 a7 a8 a9 b1 b2 b3 b4 b5 b6 b7 : Pos)
    (dp un : Nat) (gd : Option (List Code)) (outer : List Env) (A₀ : Around) (bs h₀ : Heap) (L fa : Addr) (m : Str → Option Value) (base : Led) (s : Shared) (Q : Flow → Shared → Prop) (E : Value → Shared → Prop)
    (hsw : swapsWith (.ListComp (.Call (.Name (Str.ofString "_law_drawn") b1) [.Name (Str.ofString "x") b2] [] b3) [⟨.Name (Str.ofString "x") b4, lwIt a1 a2 a3 a4 a5 a6 a7 a8 a9, [], 0⟩] (lwX m2) b5) (some (.Name (Str.ofString "drawn") b6)) b7.line (lwEnv more L fa) = pure true)
    (hm0 : m (Str.ofString "script") = some (.ref l0)) (hl0 : h₀.IsList l0 its.toArray) (hz : its.length ≤ 63)
    (B : Below A₀ bs outer h₀) (F : Fr h₀ L s.heap m) (X : (hK w.params).In h₀) (N : News h₀ L s.heap base) (T : Top VW LS mean mg mb h₀) (hdp : dp + 100 < 1000) (hun : un + 8 * 100 < 9900)
    (hret : ∀ G vs W' h' tk', Fr h₀ L h' (fun u => if u = Str.ofString "drawn" then some (.ref G) else m u) → News h₀ L h' ((G, lst vs) :: W') → Off1 G W' → (∀ p ∈ base, p ∈ W') → vs.length = (drawnOf ns).length → (∀ (i : Nat) v x, vs[i]? = some v → (drawnOf ns)[i]? = some x → DrAt W' v (agsOf (x.fmod 4)) (delOf x) (rowOf x)) → Q .next { s with heap := h', toks := tk' }) :
    wpAny (model PG w) (ktrTop dp un gd (Str.ofString "law") (lwScope more) L fa (.ref 149) [] outer) (exec (.Assign [.Name (Str.ofString "drawn") b6] (.ListComp (.Call (.Name (Str.ofString "_law_drawn") b1) [.Name (Str.ofString "x") b2] [] b3) [⟨.Name (Str.ofString "x") b4, lwIt a1 a2 a3 a4 a5 a6 a7 a8 a9, [], 0⟩] (lwX m2) b5) b7) (lwEnv more L fa)) Q E s := by
  w_top off
  revert X T
  unfold PG; k_fill
  intro X T
  refine Assign_ListComp_U (F₀ := F) (cl := []) rfl hsw (by with_unfolding_all rfl) (names3 (by decide) (by decide) (by decide)) rfl (names3 (fun _ => rfl) (fun _ => rfl) (fun h => nomatch h)) rfl rfl rfl ?_
  k_steps
  show CompSrc _ _ _ _ _ _ _ _ _ _ _ _ _ { s with heap := _, toks := _ }
  rename IntsAre _ (List.take 5 ns ++ _) => hJ
  rename Fr _ _ _ _ => FJ
  rename News _ _ _ _ => NJ
  rename _ ∧ _ ∧ AllLt _ base => lJ
  have hsz := hJ.length
  rw [List.length_append, List.length_take] at hsz
  refine CompSrc.ledger (by rfl) FJ NJ (List.Mem.head _) (by rw [sizeLine_eq]; simp only [List.size_toArray]; simp only [List.length_cons, List.length_nil] at hsz; omega) fun g => ?_
  refine comp_ind0 (fun i ys nw => (∀ p ∈ _ :: _ :: _ :: base, p ∈ nw) ∧ ys.length = i ∧ ∀ (j : Nat) v x, ys[j]? = some v → (drawnOf ns)[j]? = some x → DrAt nw v (agsOf (x.fmod 4)) (delOf x) (rowOf x)) ?step ⟨fun p hp => hp, rfl, fun j v x e => by simp at e⟩ (fun ys nw hI => ?fin)
  case fin =>
    obtain ⟨hsub, hle, hrec⟩ := hI
    intro G h' tk' F' N' o1
    refine hret G ys nw h' tk' F' N' o1 (fun p hp => hsub p (.tail _ (.tail _ (.tail _ hp)))) ?_ hrec
    rw [hle, List.size_toArray, hJ.length]
    rfl
  case step =>
    rintro i ys nw v I oI C oC D0 m₂ h tk E' hi ⟨hsub, hle, hrec⟩ hiv hC' hx1' F' N' off' ne'
    obtain ⟨x, tx, rfl, hx⟩ := ints_get hJ (by simpa using hiv)
    have C9 := t_drawn w mean mg mb x tx ((I, oI) :: (C, oC) :: (D0, lst ys) :: nw)
    show wpAny _ _ _ _ _ { s with heap := h, toks := tk }
    k_steps
    obtain ⟨tl, e9, d9⟩ := o9
    obtain rfl := List.append_cancel_left e9
    refine ⟨h9, tk9, nw ++ tl9, rfl, F9, N9, off3_over off' O9, .inr ⟨_, List.mem_append_left _ (hsub _ (List.Mem.head _)), rfl, _, rfl⟩, fun p hp => List.mem_append_left _ (hsub p hp), by rw [List.length_append, hle]; rfl, fun j v y e1 e2 => ?_⟩
    rcases snoc_get hle e1 with e1 | ⟨rfl, rfl⟩
    · exact (hrec j v y e1 e2).mono fun p hp => List.mem_append_left _ hp
    · have exy : x = y := Option.some.inj (hx.symm.trans e2)
      rw [← exy]
      exact d9.mono fun p hp => List.mem_append_right _ hp
end SW1
section SW2
open PySem PySem.W PyProof.Rows PySem.Calls
set_option Elab.async false
set_option maxRecDepth 100000
set_option maxHeartbeats 0
open LCg
theorem names5 {P : Str × NameKind → Prop} {a b c d e : Str × NameKind} (h1 : P a) (h2 : P b) (h3 : P c) (h4 : P d) (h5 : P e) : ∀ y ∈ [a, b, c, d, e], P y := fun y hy => by
  simp only [List.mem_cons, List.not_mem_nil, or_false] at hy
  rcases hy with rfl | rfl | rfl | rfl | rfl <;> assumption
theorem lw_records (w : World) (mean mg mb) (more m2 : List (Str × Const)) (vq : List Value) (dq : List Dr) (hlen : vq.length = dq.length) (h64 : vq.length < 64) (hrow : ∀ d ∈ dq, d.row ∈ rowsAll) (hags : ∀ d ∈ dq, 1 ≤ d.ags.length ∧ d.ags.length ≤ 3) (k : Nat) (D : Addr) (r1 r2 r3 r4 r5 r6 r7 r8 r9 r10 r11 r12 r13 : Pos)
    (dp un : Nat) (gd : Option (List Code)) (outer : List Env) (A₀ : Around) (bs h₀ : Heap) (L fa : Addr) (m : Str → Option Value) (base : Led) (s : Shared) (Q : Flow → Shared → Prop) (E : Value → Shared → Prop)
    (hsw : swapsWith (.ListComp (.Call (.Name (Str.ofString "_law_record") r2) [.Name (Str.ofString "agents") r3, .Name (Str.ofString "delay") r4, .Name (Str.ofString "row") r5] [] r6) [⟨.Tuple [.Name (Str.ofString "agents") r7, .Name (Str.ofString "delay") r8, .Name (Str.ofString "row") r9] 0 r10, .Name (Str.ofString "drawn") r11, [], 0⟩] (lw3 (Str.ofString "_law_record") m2) r12) (some (.Name (Str.ofString "records") r1)) r13.line (lwEnv more L fa) = pure true)
    (hm0 : m (Str.ofString "drawn") = some (.ref D))
    (B : Below A₀ bs outer h₀) (F : Fr h₀ L s.heap m) (X : (hK w.params).In h₀) (N : News h₀ L s.heap base) (T : Top VW LS mean mg mb h₀) (hdp : dp + 100 < 1000) (hun : un + 8 * 100 < 9900)
    (mD : (D, W.listOf (List.toArray vq) k) ∈ base) (hrec : ∀ (i : Nat) v d, vq[i]? = some v → dq[i]? = some d → DrAt base v d.ags d.dl d.row)
    (hret : ∀ G vs W' h' tk', Fr h₀ L h' (fun u => if u = Str.ofString "records" then some (.ref G) else m u) → News h₀ L h' ((G, lst vs) :: W') → Off1 G W' → (∀ p ∈ base, p ∈ W') → vs.length = dq.length → (∀ (i : Nat) v d, vs[i]? = some v → dq[i]? = some d → RecAt w W' v d) → Q .next { s with heap := h', toks := tk' }) :
    wpAny (model PG w) (ktrTop dp un gd (Str.ofString "law") (lwScope more) L fa (.ref 149) [] outer) (exec (.Assign [.Name (Str.ofString "records") r1] (.ListComp (.Call (.Name (Str.ofString "_law_record") r2) [.Name (Str.ofString "agents") r3, .Name (Str.ofString "delay") r4, .Name (Str.ofString "row") r5] [] r6) [⟨.Tuple [.Name (Str.ofString "agents") r7, .Name (Str.ofString "delay") r8, .Name (Str.ofString "row") r9] 0 r10, .Name (Str.ofString "drawn") r11, [], 0⟩] (lw3 (Str.ofString "_law_record") m2) r12) r13) (lwEnv more L fa)) Q E s := by
  w_top off
  revert X T
  unfold PG; k_fill
  intro X T
  refine Assign_ListComp_3 (h₀ := h₀) (m := m) (L := L) (cl := []) rfl hsw (by with_unfolding_all rfl) (names5 (by decide) (by decide) (by decide) (by decide) (by decide)) rfl (names5 (fun _ => rfl) (fun _ => rfl) (fun _ => rfl) (fun _ => rfl) (fun h => nomatch h)) rfl rfl rfl (by decide) (by decide) (by decide) rfl rfl ?_
  k_steps
  unfold Held
  refine ⟨D, List.toArray vq, base, base, fun i ys nw => (∀ p ∈ base, p ∈ nw) ∧ ys.length = i ∧ ∀ (j : Nat) v d, ys[j]? = some v → dq[j]? = some d → RecAt w nw v d, rfl, ⟨rfl, F, N, .inr ⟨_, mD, rfl, _, rfl⟩, ?_, fun i v hv => ?_, fun p hp => hp, ⟨fun p hp => hp, rfl, fun j v x e => by simp at e⟩, fun i ys nw h p hp => h.1 p hp, ?_⟩, ?_⟩
  · rw [sizeLine_eq]; simp only [List.size_toArray]; omega
  · have hv' : vq[i]? = some v := by simpa using hv
    have hi : i < vq.length := by
      rcases Nat.lt_or_ge i vq.length with x | x
      · exact x
      · rw [List.getElem?_eq_none x] at hv'; cases hv'
    obtain ⟨l', la, lr, kk, ka, kr, dv, itsA, itsR, rfl, hm, _⟩ := hrec i v _ hv' (List.getElem?_eq_getElem (hlen ▸ hi))
    exact ⟨l', _, _, _, kk, rfl, hm⟩
  · rintro i ys nw v t v1 v2 v3 n I oI C oC D0 m₂ h tk E' hi ⟨hsub, hle, hys⟩ hiv rfl hmt hC' hx1' hx2' hx3' F' N' off' ne'
    have hv : vq[i]? = some (.ref t) := by simpa using hiv
    obtain ⟨d, hd'⟩ : ∃ d, dq[i]? = some d := ⟨_, List.getElem?_eq_getElem (by rw [List.size_toArray] at hi; omega)⟩
    have hrw := hrow d (List.mem_of_getElem? hd')
    obtain ⟨l', la, lr, kk, ka, kr, dv, itsA, itsR, e, hm, hma, hsA, hdl, hmr, hiR⟩ := hrec i _ d hv hd'
    cases e
    obtain ⟨rfl, rfl, rfl⟩ := tri_eq N hmt hm
    have hA1 : 1 ≤ itsA.length := by rw [hsA.length]; exact (hags d (List.mem_of_getElem? hd')).1
    have hA2 : itsA.length ≤ 3 := by rw [hsA.length]; exact (hags d (List.mem_of_getElem? hd')).2
    have C9 := t_rec w mean mg mb la lr v2 itsA itsR ka kr d.row hA1 hA2 hiR (row_ok hrw) ((I, oI) :: (C, oC) :: (D0, lst ys) :: nw)
    have P9 := And.intro (List.Mem.tail (I, oI) (List.Mem.tail (C, oC) (List.Mem.tail (D0, lst ys) (hsub _ hma)))) (List.Mem.tail (I, oI) (List.Mem.tail (C, oC) (List.Mem.tail (D0, lst ys) (hsub _ hmr))))
    refine wpAny_tests_nil ?_
    rw [if_pos rfl]
    show wpAny _ _ _ _ _ { s with heap := h, toks := tk }
    k_steps
    obtain ⟨tl, e9, t9, d9⟩ := o9
    obtain rfl := List.append_cancel_left e9
    refine ⟨h9, tk9, nw ++ tl9, rfl, F9, N9, off3_over off' O9, trivial, fun p hp => List.mem_append_left _ (hsub p hp), by rw [List.length_append, hle]; rfl, fun j v y e1 e2 => ?_⟩
    rcases snoc_get hle e1 with e1 | ⟨rfl, rfl⟩
    · exact (hys j v y e1 e2).mono fun p hp => List.mem_append_left _ hp
    · have exy : d = y := Option.some.inj (hd'.symm.trans e2)
      rw [← exy]
      obtain ⟨x, u1, u2, u3, u4, u5, u6, u7, u8, u9, ex, n1, n2, n3, n4⟩ := d9
      subst ex
      exact ⟨x, itsA, v2, t9, rfl, ⟨x, u1, u2, u3, u4, u5, u6, u7, u8, u9, rfl, List.mem_append_right _ n1, List.mem_append_right _ n2, List.mem_append_right _ n3, List.mem_append_right _ n4⟩, hsA, hdl⟩
  · rintro G ys nw h tk ⟨hsub, hle, hys⟩ F' N' o1
    exact hret G ys nw h tk F' N' o1 hsub (by rw [hle, List.size_toArray, hlen]) hys
end SW2
section SW3
open PySem PySem.W PyProof.Rows PySem.Calls
set_option Elab.async false
set_option maxRecDepth 100000
set_option maxHeartbeats 0
noncomputable abbrev mgParams (p q : Pos) : Arguments := { posonlyargs := [], args := [{ arg := Str.ofString "one", annotation := none, pos := p }, { arg := Str.ofString "two", annotation := none, pos := q }], vararg := none, kwonlyargs := [], kw_defaults := [], kwarg := none, defaults := [] }
noncomputable abbrev mgBody (p0 p1 p2 p3 : Pos) : Expr := .Call (.Name (Str.ofString "merge_entries") p0) [.Name (Str.ofString "one") p1, .Name (Str.ofString "two") p2] [] p3
noncomputable abbrev mgScope : Scope := { kind := .function, names := [(Str.ofString "one", .local), (Str.ofString "two", .local), (Str.ofString "merge_entries", .globalImplicit)], isGenerator := false, isCoroutine := false }
theorem t_lam2 (w : World) (mean mg mb) (f c' x y : Addr) (oc : Obj) (vs : Array Value) (tq : Tok) (qual : Str) (pm ctv : Value) (p q p0 p1 p2 p3 : Pos) (hoc : oc.data = .fields vs) (hvs : vs[1]? = some (.str qual tq))
    (itsx lsx itsy lsy : List Value) (dx dy : Value) (sx sy : List Str) (hdx : DelV dx) (hdy : DelV dy) (hssx : StrsAre itsx sx) (hssy : StrsAre itsy sy) (hszx : itsx.length < 1000) (hszy : itsy.length < 1000) (hzx : lsx.length < 1000) (hzy : lsy.length < 1000) :
    Ct 160 w mean mg mb (.ref f) [.ref x, .ref y] [] (fun news => (f, kla_obj (Str.ofString "<lambda>") qual (mgParams p q) (mgBody p0 p1 p2 p3) mgScope [] pm c' ctv) ∈ news ∧ (c', oc) ∈ news ∧ EntAt w news (.ref x) itsx dx lsx ∧ EntAt w news (.ref y) itsy dy lsy) (fun news r => EntAt w news r (keptOf (memOf sy) itsx) (pickD dx dy) (lsx ++ lsy)) := by
  w_top off
  unfold Ct PG; k_fill
  intro dp un gd cn cs a ccd cl outer A₀ base h₀ L m news s Q E B F X N T hk hdp hun hpre hret
  obtain ⟨m1, m2, hX, hY⟩ := hpre
  have C9 := t_merge w mean mg mb x y itsx lsx itsy lsy dx dy sx sy hdx hdy hssx hssy hszx hszy hzx hzy
  have P9 := And.intro hX hY
  refine wpAny_call ?_
  k_dflt ((refine' kla_code (by k_asm) (by k_asm) (by k_asm) (by k_asm) (by k_asm) (by exact rfl) (by exact rfl) (by assumption) (by k_mem) (by exact codeRec_news (by k_asm) (by k_mem) (by assumption) (by assumption)) (by k_room) (by exact rfl) (by exact locs rfl) ?_ (by exact rfl) (by exact rfl) (by exact rfl) (by decide); k_whole; intro g' L' h' FG' F' N' B' X' T'; (try dsimp only); (try k_lift B'); (try k_fold)))
  dsimp only [mgBody, mgScope, mgParams]
  k_steps
  k_dflt (exact hret _ _ _ _ (by k_asm) (by k_asm) O9 o9)
end SW3
section SW4
open PySem PySem.W PyProof.Rows PySem.Calls
set_option Elab.async false
set_option maxRecDepth 100000
set_option maxHeartbeats 0
theorem mem_cont (ss : List Str) (k : Str) : memOf ss k = ss.contains k := by
  rw [Bool.eq_iff_iff]
  unfold memOf
  rw [List.any_eq_true, List.contains_iff_mem]
  constructor
  · rintro ⟨x, hx, e⟩
    rw [← eq_of_beq e]; exact hx
  · exact fun h => ⟨k, h, beq_self_eq_true k⟩
theorem strs_kept {its : List Value} {ss : List Str} (h : StrsAre its ss) (mem : Str → Bool) : StrsAre (keptOf mem its) (ss.filter mem) := by
  induction h with
  | nil => exact .nil
  | cons s t r ih =>
    unfold keptOf at ih ⊢
    rw [List.filter_cons, List.filter_cons]
    cases hm : mem s with
    | true => simpa [hm] using StrsAre.cons s t ih
    | false => simpa [hm] using ih
theorem lacks_snoc (a : Str) (dq : List Dr) (d : Dr) : decide (lacks a (dq ++ [d]) = []) = (decide (lacks a dq = []) && memOf d.ags a) := by
  rw [mem_cont]
  unfold lacks
  rw [List.filter_append, List.filter_cons, List.filter_nil]
  cases hc : d.ags.contains a <;> simp
theorem keep_snoc (dq : List Dr) (hn : dq ≠ []) (d : Dr) : keepAgs (dq ++ [d]) = (keepAgs dq).filter (memOf d.ags) := by
  unfold keepAgs
  cases dq with
  | nil => exact absurd rfl hn
  | cons d0 r =>
    show d0.ags.filter _ = (d0.ags.filter _).filter _
    rw [List.filter_filter]
    refine List.filter_congr fun a _ => ?_
    rw [lacks_snoc, Bool.and_comm]
theorem keep_one (d : Dr) : keepAgs [d] = d.ags := by
  unfold keepAgs
  refine List.filter_eq_self.mpr fun a ha => ?_
  have h : d.ags.contains a = true := List.contains_iff_mem.mpr ha
  show decide (lacks a [d] = []) = true
  unfold lacks
  rw [List.filter_cons, List.filter_nil, h]
  rfl
theorem del_snoc {dx dy : Value} {ol : List Int} {dl : Option Int} (hx : DelIs dx ol.getLast?) (hy : DelIs dy dl) : DelIs (pickD dx dy) (ol ++ dl.toList).getLast? := by
  cases dl with
  | none =>
    have e : dy = .none := hy
    subst e
    show DelIs (pickD dx .none) (ol ++ []).getLast?
    rw [List.append_nil]
    exact hx
  | some i =>
    obtain ⟨t, e⟩ := hy
    subst e
    show DelIs (.int i t) (ol ++ [i]).getLast?
    rw [List.getLast?_append]
    exact ⟨t, rfl⟩
theorem fm_snoc (dq : List Dr) (d : Dr) : (dq ++ [d]).filterMap (·.dl) = dq.filterMap (·.dl) ++ d.dl.toList := by
  rw [List.filterMap_append]
  cases h : d.dl with
  | none => simp [h]
  | some x => simp [h]
theorem delv_of {v : Value} {o : Option Int} (h : DelIs v o) : DelV v := by
  cases o with
  | none => exact .inl h
  | some i => obtain ⟨t, e⟩ := h; exact .inr ⟨i, t, e⟩
theorem strip1 {p : Addr × Obj} {I : Addr} {oI : Obj} {l : Led} (h : p ∈ (I, oI) :: l) (hne : p.2.cls ≠ oI.cls) : p ∈ l := by
  rcases List.mem_cons.mp h with e | h
  · exact absurd (by rw [e]) hne
  · exact h
theorem ent_strip {w : World} {I b : Addr} {j : Nat} {oI : Obj} {l : Led} {v dv : Value} {its ls : List Value} (hI : LiIs oI b j) (h : EntAt w ((I, oI) :: l) v its dv ls) : EntAt w l v its dv ls := by
  obtain ⟨x, d, l1, l2, k1, k2, t1, t2, t3, t4, e, a, b', c, f⟩ := h
  have hc : oI.cls = .type "list_iterator" := hI.1
  refine ⟨x, d, l1, l2, k1, k2, t1, t2, t3, t4, e, strip1 a ?_, strip1 b' ?_, strip1 c ?_, strip1 f ?_⟩ <;> rw [hc]
  · exact fun e => by cases e
  · show Value.type "dict" ≠ Value.type "list_iterator"; decide
  · show Value.type "list" ≠ Value.type "list_iterator"; decide
  · show Value.type "list" ≠ Value.type "list_iterator"; decide
inductive WholeIs (w : World) (led : Led) (v : Value) (dq : List Dr) : Prop
  | mk (x : Addr) (its : List Value) (dv : Value) (ls : List Value) (e : v = .ref x) (hE : EntAt w led (.ref x) its dv ls) (hA : StrsAre its (keepAgs dq)) (hD : DelIs dv (dq.filterMap (·.dl)).getLast?) (hL : StrsAre ls (dq.map fun d => lineOf d.row)) : WholeIs w led v dq
theorem WholeIs.mono {w : World} {a b : Led} {v : Value} {dq : List Dr} (h : WholeIs w a v dq) (hs : ∀ p ∈ a, p ∈ b) : WholeIs w b v dq :=
  let ⟨x, its, dv, ls, e, h1, h2, h3, h4⟩ := h; ⟨x, its, dv, ls, e, h1.mono hs, h2, h3, h4⟩
theorem t_whole (w : World) (mean mg mb) (f c' ax : Addr) (oc : Obj) (fvs : Array Value) (tq : Tok) (qual : Str) (pm ctv : Value) (p q p0 p1 p2 p3 : Pos) (hoc : oc.data = .fields fvs) (hvs : fvs[1]? = some (.str qual tq))
    (k : Nat) (vs : List Value) (dq : List Dr) (hlen : vs.length = dq.length) (h1 : 1 ≤ vs.length) (h64 : vs.length < 64) (hags : ∀ d ∈ dq, d.ags.length ≤ 3) :
    Ct 180 w mean mg mb (.ref 116) [.ref f, .ref ax] [] (fun news => ((f, kla_obj (Str.ofString "<lambda>") qual (mgParams p q) (mgBody p0 p1 p2 p3) mgScope [] pm c' ctv) ∈ news ∧ (c', oc) ∈ news ∧ ∀ (i : Nat) v d, vs[i]? = some v → dq[i]? = some d → RecAt w news v d) ∧ (ax, listOf vs.toArray k) ∈ news) (fun news r => WholeIs w news r dq) := by
  obtain ⟨v0, hv0⟩ : ∃ v, vs[0]? = some v := ⟨_, List.getElem?_eq_getElem (by omega)⟩
  obtain ⟨d0, hd0⟩ : ∃ d, dq[0]? = some d := ⟨_, List.getElem?_eq_getElem (by omega)⟩
  have htk : dq.take vs.length = dq := by rw [hlen, List.take_length]
  have R := t_reduce2 w mean mg mb 160 f ax vs k v0 hv0 (fun news => (f, kla_obj (Str.ofString "<lambda>") qual (mgParams p q) (mgBody p0 p1 p2 p3) mgScope [] pm c' ctv) ∈ news ∧ (c', oc) ∈ news ∧ ∀ (i : Nat) v d, vs[i]? = some v → dq[i]? = some d → RecAt w news v d)
    (fun i news v => WholeIs w news v (dq.take i)) (fun a b hs h => ⟨hs _ h.1, hs _ h.2.1, fun i v d e1 e2 => (h.2.2 i v d e1 e2).mono hs⟩) (fun news h => ⟨_, _, _, _, h.1⟩)
    (fun i l I oI b j v hI h => by
      obtain ⟨x, its, dv, ls, e, h1, h2, h3, h4⟩ := h
      exact ⟨x, its, dv, ls, e, ent_strip hI h1, h2, h3, h4⟩) ?hf ?base (fun i v a b hs h => h.mono hs)
  · rw [htk] at R
    exact R
  case base =>
    intro news h
    obtain ⟨x, its, dv, t, e, hE, hS, hD⟩ := h.2.2 0 v0 d0 hv0 hd0
    have e1 : dq.take 1 = [d0] := by
      cases dq with
      | nil => simp at hd0
      | cons a r => simp at hd0; rw [hd0]; rfl
    refine ⟨x, its, dv, _, e, hE, ?_, ?_, ?_⟩
    · rw [e1, keep_one]; exact hS
    · rw [e1]
      cases hdl : d0.dl with
      | none => rw [hdl] at hD; simpa [hdl] using hD
      | some i => rw [hdl] at hD; simpa [hdl] using hD
    · rw [e1]; exact .cons _ _ .nil
  case hf =>
    intro i v e hi hie
    have hil : i < vs.length := by
      rcases Nat.lt_or_ge i vs.length with x | x
      · exact x
      · rw [List.getElem?_eq_none x] at hie; cases hie
    obtain ⟨d, hd⟩ : ∃ d, dq[i]? = some d := ⟨_, List.getElem?_eq_getElem (by omega)⟩
    have htake : dq.take (i + 1) = dq.take i ++ [d] := by rw [List.take_add_one, hd]; rfl
    intro dp un gd cn cs a ccd cl outer A₀ base h₀ L m news s Q E B F X N T hk hdp hun hpre hret
    obtain ⟨⟨m1, m2, hR⟩, x, its, dv, ls, rfl, hE, hS, hD, hL⟩ := hpre
    obtain ⟨y, itsy, dy, t, rfl, hEy, hSy, hDy⟩ := hR i e d hie hd
    have hag1 : itsy.length < 1000 := by rw [hSy.length]; exact Nat.lt_of_le_of_lt (hags d (List.mem_of_getElem? hd)) (by decide)
    have hag0 : its.length < 1000 := by rw [hS.length]; exact Nat.lt_of_le_of_lt (keep_len fun d hd => hags d (List.mem_of_mem_take hd)) (by decide)
    have hl0 : ls.length < 1000 := by rw [hL.length, List.length_map, List.length_take]; omega
    refine t_lam2 w mean mg mb f c' x y oc fvs tq qual pm ctv p q p0 p1 p2 p3 hoc hvs its ls itsy [.str (lineOf d.row) t] dv dy _ _ (delv_of hD) (delv_of hDy) hS hSy hag0 hag1 hl0 (show 1 < 1000 by decide) dp un gd cn cs a ccd cl outer A₀ base h₀ L m news s Q E B F X N T hk hdp hun ⟨m1, m2, hE, hEy⟩ fun r tl h' tk' F' N' O' o => hret r tl h' tk' F' N' O' ?_
    have o' := o
    obtain ⟨z, _, _, _, _, _, _, _, _, _, ez, _⟩ := o'
    subst ez
    refine ⟨z, _, _, _, rfl, o, ?_, ?_, ?_⟩
    · rw [htake, keep_snoc _ (by intro h; have := congrArg List.length h; rw [List.length_take, List.length_nil] at this; omega)]
      exact strs_kept hS _
    · rw [htake, fm_snoc]
      exact del_snoc hD hDy
    · rw [htake, List.map_append]
      exact strs_snoc hL _ _
end SW4
section SW5
local macro_rules | `(tactic| walk_at "none") => `(tactic| skip)
open PySem PySem.W PyProof.Rows PySem.Calls
set_option Elab.async false
set_option maxRecDepth 100000
set_option maxHeartbeats 0
open LCg
set_option hygiene false in
local macro_rules | `(tactic| walk_at "eval Lambda") => `(tactic| refine halted hstop ?_)
theorem news_ck {h₀ h : Heap} {L : Addr} {a b t x y : Addr × Obj} {base : Led} (N : News h₀ L h (a :: b :: t :: x :: y :: base)) : News h₀ L h (x :: (a :: b :: t :: y :: base)) := fun p hp => N p (by
  simp only [List.mem_cons] at hp ⊢
  rcases hp with h | h | h | h | h | h <;> simp [h])
theorem news_ck2 {h₀ h : Heap} {L : Addr} {a b t x y : Addr × Obj} {base tl : Led} (N : News h₀ L h (x :: ((a :: b :: t :: y :: base) ++ tl))) : News h₀ L h (y :: (a :: b :: t :: x :: (base ++ tl))) := fun p hp => N p (by
  simp only [List.mem_cons, List.mem_append, List.cons_append] at hp ⊢
  rcases hp with h | h | h | h | h | h | h <;> simp [h])
theorem ck_ne {a b y : Addr × Obj} {t t' x : Obj} {base : Led} (l91 : ∀ q ∈ (147, t') :: (102, x) :: y :: base, q.1 < b.1) (l92 : b.1 < a.1) (hy : y.1 ≠ 102) (hb : ∀ p ∈ base, p.1 ≠ 102) : ∀ p ∈ a :: b :: (147, t) :: y :: base, p.1 ≠ 102 := fun p hp => by
  have lb : 102 < b.1 := l91 (102, x) (.tail _ (.head _))
  rcases List.mem_cons.mp hp with rfl | hp
  · exact Nat.ne_of_gt (Nat.lt_trans lb l92)
  rcases List.mem_cons.mp hp with rfl | hp
  · exact Nat.ne_of_gt lb
  rcases List.mem_cons.mp hp with rfl | hp
  · exact (by decide : (147 : Nat) ≠ 102)
  rcases List.mem_cons.mp hp with rfl | hp
  · exact hy
  · exact hb p hp
theorem ks_ne {a b : Addr × Obj} {t t' x x' y : Obj} {base tl : Led} (l91 : ∀ q ∈ (147, t') :: (102, x') :: (130, y) :: base, q.1 < b.1) (l92 : b.1 < a.1) (hb : ∀ p ∈ base, p.1 ≠ 130) (O : Over (a :: b :: (147, t) :: (130, y) :: base) tl) : ∀ p ∈ a :: b :: (147, t) :: (102, x) :: (base ++ tl), p.1 ≠ 130 := fun p hp => by
  have lb : 130 < b.1 := l91 (130, y) (.tail _ (.tail _ (.head _)))
  rcases List.mem_cons.mp hp with rfl | hp
  · exact Nat.ne_of_gt (Nat.lt_trans lb l92)
  rcases List.mem_cons.mp hp with rfl | hp
  · exact Nat.ne_of_gt lb
  rcases List.mem_cons.mp hp with rfl | hp
  · exact (by decide : (147 : Nat) ≠ 130)
  rcases List.mem_cons.mp hp with rfl | hp
  · exact (by decide : (102 : Nat) ≠ 130)
  rcases List.mem_append.mp hp with hp | hp
  · exact hb p hp
  · exact (O (130, y) (.tail _ (.tail _ (.tail _ (.head _)))) p hp).symm
theorem lw_whole (w : World) (mean mg mb) (more : List (Str × Const)) (vs : List Value) (ds : List Dr) (hlen : vs.length = ds.length) (h3 : 3 ≤ vs.length) (h8 : vs.length ≤ 8) (hrow : ∀ d ∈ ds, d.row ∈ rowsAll) (hags : ∀ d ∈ ds, d.ags.length ≤ 3) (k : Nat) (G : Addr) (p q p0 p1 p2 p3 r1 r2 r3 r4 r5 r6 r7 r8 r9 r10 r11 r12 : Pos)
    (dp un : Nat) (gd : Option (List Code)) (outer : List Env) (A₀ : Around) (bs h₀ : Heap) (L fa : Addr) (m : Str → Option Value) (base : Led) (s : Shared) (Q : Flow → Shared → Prop) (E : Value → Shared → Prop)
    (hm0 : m (Str.ofString "records") = some (.ref G))
    (B : Below A₀ bs outer h₀) (F : Fr h₀ L s.heap m) (X : (hK w.params).In h₀) (N : News h₀ L s.heap ((147, tabObj #[]) :: (102, tabObj #[]) :: (130, tabObj #[]) :: base)) (T : Top VW LS mean mg mb h₀) (C1 : CodeHd h₀ 134 130) (C2 : CodeHd h₀ 106 102) (hSM : ∃ o, h₀.get? sysModules = some o) (C3 : CodeHd h₀ 149 147) (hlt : ∀ p ∈ base, p.1 ≠ 130 ∧ p.1 ≠ 102 ∧ p.1 ≠ 147) (hdp : dp + 400 < 1000) (hun : un + 8 * 400 < 9900)
    (mG : (G, W.listOf (List.toArray vs) k) ∈ base) (hrec : ∀ (i : Nat) v d, vs[i]? = some v → ds[i]? = some d → RecAt w base v d)
    (hret : ∀ v W' h' tk', Fr h₀ L h' (fun u => if u = Str.ofString "whole" then some v else m u) → News h₀ L h' W' → (∀ p ∈ base, p ∈ W') → (∃ a b c, (147, tabObj a) ∈ W' ∧ (102, tabObj b) ∈ W' ∧ (130, tabObj c) ∈ W') → WholeIs w W' v ((sortP vs.length (drLt txLt ds)).map fun i => ds.getD i noDr) → Q .next { s with heap := h', toks := tk' }) :
    wpAny (model PG w) (ktrTop dp un gd (Str.ofString "law") (lwScope more) L fa (.ref 149) [] outer) (exec (.Assign [.Name (Str.ofString "whole") r1] (.Call (.Name (Str.ofString "reduce") r2) [.Lambda (mgParams p q) (mgBody p0 p1 p2 p3) mgScope r3, .Call (.Name (Str.ofString "sorted") r4) [.Name (Str.ofString "records") r5] [⟨some (Str.ofString "key"), .Call (.Name (Str.ofString "cmp_to_key") r6) [.Name (Str.ofString "_law_turn") r7] [] r8, r9⟩] r10] [] r11) r12) (lwEnv more L fa)) Q E s := by
  w_top off
  revert X T C1 C2 C3
  unfold PG; k_fill
  intro X T C1 C2 C3
  have hn : 0 < vs.length := by omega
  obtain ⟨vq, hvq⟩ : ∃ vq, vq = (sortP vs.length (drLt txLt ds)).map fun i => vs.getD i .none := ⟨_, rfl⟩
  obtain ⟨dq, hdq⟩ : ∃ dq, dq = (sortP vs.length (drLt txLt ds)).map fun i => ds.getD i noDr := ⟨_, rfl⟩
  rw [← hdq] at hret
  have lq : vq.length = dq.length := by rw [hvq, hdq, List.length_map, List.length_map]
  have lq2 : vq.length = vs.length := by rw [hvq, List.length_map, sortP_len hn]
  have atq : ∀ (i : Nat) v d, vq[i]? = some v → dq[i]? = some d → ∃ j, vs[j]? = some v ∧ ds[j]? = some d := fun i v d e1 e2 => by
    rw [hvq, List.getElem?_map] at e1
    rw [hdq, List.getElem?_map] at e2
    obtain ⟨j, hj, rfl⟩ := Option.map_eq_some_iff.mp e1
    rw [hj] at e2
    have lj := sortP_lt hn (drLt txLt ds) j (List.mem_of_getElem? hj)
    refine ⟨j, ?_, ?_⟩
    · rw [List.getD_eq_getElem?_getD, List.getElem?_eq_getElem lj]; rfl
    · rw [← Option.some.inj e2]
      show ds[j]? = some (ds.getD j noDr)
      rw [List.getD_eq_getElem?_getD, List.getElem?_eq_getElem (hlen ▸ lj)]; rfl
  have hrq : ∀ led : Led, (∀ p ∈ base, p ∈ led) → ∀ (i : Nat) v d, vq[i]? = some v → dq[i]? = some d → RecAt w led v d := fun led hs i v d e1 e2 => by
    obtain ⟨j, a, b⟩ := atq i v d e1 e2
    exact (hrec j v d a b).mono hs
  have hagq : ∀ d ∈ dq, d.ags.length ≤ 3 := fun d hd => by
    obtain ⟨i, hi, e⟩ := List.getElem_of_mem hd
    obtain ⟨j, _, b⟩ := atq i (vq[i]'(lq ▸ hi)) d (List.getElem?_eq_getElem _) (e ▸ List.getElem?_eq_getElem hi)
    exact hags d (List.mem_of_getElem? b)
  have hstop := True.intro
  k_steps
  ((k_dflt (refine' kla_eval (by exact rfl) ?_)); (k_dflt (refine' kla_nest (ps := #[]) (by k_asm) (by k_asm) (by k_asm) (by exact C3) (by exact rfl) (by exact UpdF.head (List.forall_mem_cons.mpr ⟨(by decide : (102 : Nat) ≠ 147), List.forall_mem_cons.mpr ⟨(by decide : (130 : Nat) ≠ 147), fun p hp => (hlt p hp).2.2⟩⟩)) trivial rfl (by exact rfl) ?_)); intro f9 c9 oc9 vs9 tq9 ctv9 h9 tk9 F9 N9 d91 d92 l91 l92; (try dsimp only at N9 l91 l92))
  k_steps
  ((k_dflt (refine' t_ck w mean mg mb _ _ _ _ _ _ _ _ _ _ _ _ _ _ _ _ _ _ (by k_asm) (by k_asm) (by k_asm) (news_ck N9) (by k_asm) C2 hSM (ck_ne l91 l92 (by decide) fun p hp => (hlt p hp).2.1) rfl (by k_room) (by k_units) ?_)); intro c10 ps10 tl10 h10 tk10 F10 N10 O10 ne10 K10)
  k_steps
  ((k_dflt (refine' t_ksorted w mean mg mb c10 G k vs ds hlen (by omega) (by omega) hrow _ _ _ _ _ _ _ _ _ _ _ _ _ _ _ _ _ _ _ (by k_asm) (by k_asm) (by k_asm) (news_ck2 N10) (by k_asm) C1 rfl (by k_room) (by k_units) (ks_ne l91 l92 (fun p hp => (hlt p hp).1) O10) (Or.inl rfl) (K10.mono fun p hp => List.Mem.tail _ (List.Mem.tail _ (List.Mem.tail _ (List.Mem.tail _ (List.mem_append_right _ hp))))) (List.Mem.tail _ (List.Mem.tail _ (List.Mem.tail _ (List.Mem.tail _ (List.mem_append_left _ mG))))) (fun i v d e1 e2 => (hrec i v d e1 e2).mono fun p hp => List.Mem.tail _ (List.Mem.tail _ (List.Mem.tail _ (List.Mem.tail _ (List.mem_append_left _ hp))))) ?_)); intro D11 k11 ps11 tl11 h11 tk11 F11 N11 O11 ne11 I11 m11; rw [← hvq] at m11)
  k_steps
  ((k_dflt (refine' ct_use (t_whole w mean mg mb f9 c9 D11 oc9 vs9 tq9 (Str.ofString "law" ++ Str.ofString ".<locals>." ++ Str.ofString "<lambda>") ((mg (Str.ofString "__name__")).getD Value.none) ctv9 p q p0 p1 p2 p3 d91 d92 k11 vq dq lq (by omega) (by omega) hagq) (by k_asm) (by k_asm) (by k_asm) (by k_asm) (by k_asm) rfl (by k_room) (by k_units) (by exact ⟨⟨List.Mem.tail _ (List.mem_append_left _ (List.Mem.head _)), List.Mem.tail _ (List.mem_append_left _ (List.Mem.tail _ (List.Mem.head _))), hrq _ fun p hp => List.Mem.tail _ (List.mem_append_left _ (List.Mem.tail _ (List.Mem.tail _ (List.Mem.tail _ (List.Mem.tail _ (List.mem_append_left _ hp))))))⟩, List.Mem.tail _ (List.mem_append_right _ m11)⟩) ?_)); intro r12 tl12 h12 tk12 F12 N12 O12 o12)
  k_steps
  rename News _ _ _ _ => NZ
  rename Fr _ _ _ _ => FZ
  exact hret r12 _ _ _ FZ NZ (fun p hp => List.mem_append_left _ (List.Mem.tail _ (List.mem_append_left _ (List.Mem.tail _ (List.Mem.tail _ (List.Mem.tail _ (List.Mem.tail _ (List.mem_append_left _ hp)))))))) ⟨_, _, _, List.mem_append_left _ (List.Mem.tail _ (List.mem_append_left _ (List.Mem.tail _ (List.Mem.tail _ (List.Mem.head _))))), List.mem_append_left _ (List.Mem.tail _ (List.mem_append_left _ (List.Mem.tail _ (List.Mem.tail _ (List.Mem.tail _ (List.Mem.head _)))))), List.mem_append_left _ (List.Mem.head _)⟩ o12
end SW5
section SW6
open PySem PySem.W PyProof.Rows PySem.Calls
set_option Elab.async false
set_option maxRecDepth 100000
set_option maxHeartbeats 0
open LCg
inductive MadeAt (led : Led) (v : Value) (d : Dr) : Prop
  | mk (e l1 l2 : Addr) (k k1 k2 : Nat) (dv : Value) (its : List Value) (t : Tok) (h1 : v = .ref e) (h2 : (e, W.listOf #[.ref l1, dv, .ref l2] k) ∈ led) (h3 : (l1, W.listOf (List.toArray its) k1) ∈ led) (h4 : StrsAre its d.ags) (h5 : DelIs dv d.dl) (h6 : (l2, W.listOf #[.str (lineOf d.row) t] k2) ∈ led) : MadeAt led v d
theorem MadeAt.mono {a b : Led} {v : Value} {d : Dr} (h : MadeAt a v d) (hs : ∀ p ∈ a, p ∈ b) : MadeAt b v d :=
  let ⟨e, l1, l2, k, k1, k2, dv, its, t, h1, h2, h3, h4, h5, h6⟩ := h; ⟨e, l1, l2, k, k1, k2, dv, its, t, h1, hs _ h2, hs _ h3, h4, h5, hs _ h6⟩
theorem names2 {P : Str × NameKind → Prop} {a b : Str × NameKind} (h1 : P a) (h2 : P b) : ∀ y ∈ [a, b], P y := fun y hy => by
  simp only [List.mem_cons, List.not_mem_nil, or_false] at hy
  rcases hy with rfl | rfl <;> assumption
theorem news_mv {h₀ h : Heap} {L : Addr} {n a b c : Addr × Obj} {nw : Led} (N : News h₀ L h (n :: a :: b :: c :: nw)) : News h₀ L h (a :: b :: c :: n :: nw) := fun p hp => N p (by
  simp only [List.mem_cons] at hp ⊢
  rcases hp with h | h | h | h | h <;> simp [h])
local macro_rules | `(tactic| walk_at "CompSrc") => `(tactic| fail "stop")
theorem lw_made (w : World) (mean mg mb) (more m2 : List (Str × Const)) (vs : List Value) (ds : List Dr) (hlen : vs.length = ds.length) (h64 : vs.length < 64) (k : Nat) (G : Addr) (r1 r2 r3 r4 r5 r6 r7 r8 r9 r10 r11 r12 : Pos)
    (dp un : Nat) (gd : Option (List Code)) (outer : List Env) (A₀ : Around) (bs h₀ : Heap) (L fa : Addr) (m : Str → Option Value) (base : Led) (s : Shared) (Q : Flow → Shared → Prop) (E : Value → Shared → Prop)
    (hsw : swapsWith (.ListComp (.List [.Attribute (.Name (Str.ofString "record") r2) (Str.ofString "useragents") r3, .Attribute (.Name (Str.ofString "record") r4) (Str.ofString "delay") r5, .Attribute (.Name (Str.ofString "record") r6) (Str.ofString "rulelines") r7] r8) [⟨.Name (Str.ofString "record") r9, .Name (Str.ofString "records") r10, [], 0⟩] (lwM m2) r11) (some (.Name (Str.ofString "made") r1)) r12.line (lwEnv more L fa) = pure true)
    (hm0 : m (Str.ofString "records") = some (.ref G))
    (B : Below A₀ bs outer h₀) (F : Fr h₀ L s.heap m) (X : (hK w.params).In h₀) (N : News h₀ L s.heap base) (T : Top VW LS mean mg mb h₀) (hdp : dp + 100 < 1000) (hun : un + 8 * 100 < 9900)
    (mG : (G, W.listOf (List.toArray vs) k) ∈ base) (hrec : ∀ (i : Nat) v d, vs[i]? = some v → ds[i]? = some d → RecAt w base v d)
    (hret : ∀ G2 ys W' h' tk', Fr h₀ L h' (fun u => if u = Str.ofString "made" then some (.ref G2) else m u) → News h₀ L h' ((G2, lst ys) :: W') → Off1 G2 W' → (∀ p ∈ base, p ∈ W') → ys.length = ds.length → (∀ (i : Nat) v d, ys[i]? = some v → ds[i]? = some d → MadeAt W' v d) → Q .next { s with heap := h', toks := tk' }) :
    wpAny (model PG w) (ktrTop dp un gd (Str.ofString "law") (lwScope more) L fa (.ref 149) [] outer) (exec (.Assign [.Name (Str.ofString "made") r1] (.ListComp (.List [.Attribute (.Name (Str.ofString "record") r2) (Str.ofString "useragents") r3, .Attribute (.Name (Str.ofString "record") r4) (Str.ofString "delay") r5, .Attribute (.Name (Str.ofString "record") r6) (Str.ofString "rulelines") r7] r8) [⟨.Name (Str.ofString "record") r9, .Name (Str.ofString "records") r10, [], 0⟩] (lwM m2) r11) r12) (lwEnv more L fa)) Q E s := by
  w_top off
  revert X T
  unfold PG; k_fill
  intro X T
  refine Assign_ListComp_U (F₀ := F) (cl := []) rfl hsw (by with_unfolding_all rfl) (names2 (by decide) (by decide)) rfl (names2 (fun _ => rfl) (fun _ => rfl)) rfl rfl rfl ?_
  k_steps
  refine CompSrc.ledger (by rfl) F N mG (by rw [sizeLine_eq]; simp only [List.size_toArray]; omega) fun g => ?_
  refine comp_ind0 (fun i ys nw => (∀ p ∈ base, p ∈ nw) ∧ ys.length = i ∧ ∀ (j : Nat) v d, ys[j]? = some v → ds[j]? = some d → MadeAt nw v d) ?step ⟨fun p hp => hp, rfl, fun j v x e => by simp at e⟩ (fun ys nw hI => ?fin)
  case fin =>
    obtain ⟨hsub, hle, hys⟩ := hI
    intro G2 h' tk' F' N' o1
    exact hret G2 ys nw h' tk' F' N' o1 hsub (by rw [hle, List.size_toArray, hlen]) hys
  case step =>
    rintro i ys nw v I oI C oC D0 m₂ h tk E' hi ⟨hsub, hle, hys⟩ hiv hC' hx1' F' N' off' ne'
    have hv : vs[i]? = some v := by simpa using hiv
    obtain ⟨d, hd'⟩ : ∃ d, ds[i]? = some d := ⟨_, List.getElem?_eq_getElem (by rw [List.size_toArray] at hi; omega)⟩
    obtain ⟨x, its, dv, t, rfl, ⟨x', dd, l1, l2, k1, k2, t1, t2, t3, t4, ex, mx, md, ml1, ml2⟩, hS, hD⟩ := hrec i v d hv hd'
    cases ex
    have nx := hsub _ mx
    have nd := hsub _ md
    have nl1 := hsub _ ml1
    have nl2 := hsub _ ml2
    show wpAny _ _ _ _ _ { s with heap := h, toks := tk }
    rcases delv_of hD with rfl | ⟨di, dt, rfl⟩
    all_goals
      k_steps
      rename News _ _ _ _ => NZ
      rename Fr _ _ _ _ => FZ
      rename _ ∧ _ ∧ _ ∧ AllLt _ nw => lZ
      refine ⟨_, _, (_, _) :: nw, rfl, FZ, news_mv NZ, ⟨⟨Nat.ne_of_gt lZ.1, Nat.ne_of_gt lZ.2.1, Nat.ne_of_gt lZ.2.2.1⟩, off'⟩, .inr ⟨_, .tail _ (hsub _ mG), rfl, _, rfl⟩, fun p hp => .tail _ (hsub p hp), by rw [List.length_append, hle]; rfl, fun j v y e1 e2 => ?_⟩
      rcases snoc_get hle e1 with e1 | ⟨rfl, rfl⟩
      · exact (hys j v y e1 e2).mono fun p hp => .tail _ hp
      · have exy : d = y := Option.some.inj (hd'.symm.trans e2)
        rw [← exy]
        exact ⟨_, l1, l2, 0, k1, k2, _, its, t, rfl, .head _, .tail _ nl1, hS, hD, .tail _ nl2⟩
end SW6
section SW7
open PySem PySem.W PyProof.Rows PySem.Calls
set_option Elab.async false
set_option maxRecDepth 100000
set_option maxHeartbeats 0
open LCg
theorem news_mv2 {h₀ h : Heap} {L : Addr} {n n2 a b c : Addr × Obj} {nw : Led} (N : News h₀ L h (n :: n2 :: a :: b :: c :: nw)) : News h₀ L h (a :: b :: c :: n :: n2 :: nw) := fun p hp => N p (by
  simp only [List.mem_cons] at hp ⊢
  rcases hp with h | h | h | h | h | h <;> simp [h])
noncomputable abbrev lwRhs (m2 : List (Str × Const)) (r2 r3 r4 r5 r6 r7 r8 r9 r10 r11 r12 r13 r14 r15 r16 : Pos) : Expr := .ListComp (.List [.Name (Str.ofString "agents") r2, .Name (Str.ofString "delay") r3, .List [.BinOp (.Constant (.str (Str.ofString "Allow: /")) 0 r4) .Add (.Call (.Name (Str.ofString "_law_written") r5) [.Name (Str.ofString "row") r6] [] r7) r8] r9] r10) [⟨.Tuple [.Name (Str.ofString "agents") r11, .Name (Str.ofString "delay") r12, .Name (Str.ofString "row") r13] 0 r14, .Name (Str.ofString "drawn") r15, [], 0⟩] (lw3 (Str.ofString "_law_written") m2) r16
theorem lw_rhs (w : World) (mean mg mb) (more m2 : List (Str × Const)) (vq : List Value) (dq : List Dr) (hlen : vq.length = dq.length) (h64 : vq.length < 64) (hrow : ∀ d ∈ dq, d.row ∈ rowsAll) (k : Nat) (D : Addr) (r2 r3 r4 r5 r6 r7 r8 r9 r10 r11 r12 r13 r14 r15 r16 : Pos)
    (dp un : Nat) (gd : Option (List Code)) (outer : List Env) (A₀ : Around) (bs h₀ : Heap) (L fa : Addr) (m : Str → Option Value) (base : Led) (s : Shared) (Q : Value → Shared → Prop) (E : Value → Shared → Prop)
    (hm0 : m (Str.ofString "drawn") = some (.ref D))
    (B : Below A₀ bs outer h₀) (F : Fr h₀ L s.heap m) (X : (hK w.params).In h₀) (N : News h₀ L s.heap base) (T : Top VW LS mean mg mb h₀) (hdp : dp + 100 < 1000) (hun : un + 8 * 100 < 9900)
    (mD : (D, W.listOf (List.toArray vq) k) ∈ base) (hrec : ∀ (i : Nat) v d, vq[i]? = some v → dq[i]? = some d → DrAt base v d.ags d.dl d.row)
    (hret : ∀ G ys W' h' tk', Fr h₀ L h' m → News h₀ L h' ((G, lst ys) :: W') → Off1 G W' → (∀ p ∈ base, p ∈ W') → ys.length = dq.length → (∀ (i : Nat) v d, ys[i]? = some v → dq[i]? = some d → MadeAt W' v d) → Q (.ref G) { s with heap := h', toks := tk' }) :
    wpAny (model PG w) (ktrTop dp un gd (Str.ofString "law") (lwScope more) L fa (.ref 149) [] outer) (eval (lwRhs m2 r2 r3 r4 r5 r6 r7 r8 r9 r10 r11 r12 r13 r14 r15 r16) (lwEnv more L fa)) Q E s := by
  w_top off
  revert X T
  unfold PG; k_fill
  intro X T
  refine ListComp_3 (h₀ := h₀) (m := m) (L := L) (cl := []) (by with_unfolding_all rfl) (names5 (by decide) (by decide) (by decide) (by decide) (by decide)) rfl (names5 (fun _ => rfl) (fun _ => rfl) (fun _ => rfl) (fun _ => rfl) (fun h => nomatch h)) rfl rfl rfl (by decide) (by decide) (by decide) ?_
  k_steps
  unfold Held
  refine ⟨D, List.toArray vq, base, base, fun i ys nw => (∀ p ∈ base, p ∈ nw) ∧ ys.length = i ∧ ∀ (j : Nat) v d, ys[j]? = some v → dq[j]? = some d → MadeAt nw v d, rfl, ⟨rfl, F, N, .inr ⟨_, mD, rfl, _, rfl⟩, ?_, fun i v hv => ?_, fun p hp => hp, ⟨fun p hp => hp, rfl, fun j v x e => by simp at e⟩, fun i ys nw h p hp => h.1 p hp, ?_⟩, ?_⟩
  · rw [sizeLine_eq]; simp only [List.size_toArray]; omega
  · have hv' : vq[i]? = some v := by simpa using hv
    have hi : i < vq.length := by
      rcases Nat.lt_or_ge i vq.length with x | x
      · exact x
      · rw [List.getElem?_eq_none x] at hv'; cases hv'
    obtain ⟨l', la, lr, kk, ka, kr, dv, itsA, itsR, rfl, hm, _⟩ := hrec i v _ hv' (List.getElem?_eq_getElem (hlen ▸ hi))
    exact ⟨l', _, _, _, kk, rfl, hm⟩
  · rintro i ys nw v t v1 v2 v3 n I oI C oC D0 m₂ h tk E' hi ⟨hsub, hle, hys⟩ hiv rfl hmt hC' hx1' hx2' hx3' F' N' off' ne'
    have hv : vq[i]? = some (.ref t) := by simpa using hiv
    obtain ⟨d, hd'⟩ : ∃ d, dq[i]? = some d := ⟨_, List.getElem?_eq_getElem (by rw [List.size_toArray] at hi; omega)⟩
    have hrw := hrow d (List.mem_of_getElem? hd')
    obtain ⟨l', la, lr, kk, ka, kr, dv, itsA, itsR, e, hm, hma, hsA, hdl, hmr, hiR⟩ := hrec i _ d hv hd'
    cases e
    obtain ⟨rfl, rfl, rfl⟩ := tri_eq N hmt hm
    have C8 := t_writ w mean mg mb lr itsR kr d.row hiR (row_ok hrw)
    have P8 := List.Mem.tail (I, oI) (List.Mem.tail (C, oC) (List.Mem.tail (D0, lst ys) (hsub _ hmr)))
    have el : Str.ofString "Allow: /" ++ wrText d.row = lineOf d.row := by unfold lineOf; rw [wr_eq hrw]
    refine wpAny_tests_nil ?_
    rw [if_pos rfl]
    show wpAny _ _ _ _ _ { s with heap := h, toks := tk }
    k_steps
    (k_dflt (refine add_str ?_ (wr_fits hrw)); intro t6 k6)
    k_steps
    rename News _ _ _ _ => NZ
    rename Fr _ _ _ _ => FZ
    rename _ < _ ∧ _ ∧ _ ∧ _ ∧ AllLt _ nw => lZ
    rename _ ∧ _ ∧ _ ∧ AllLt _ nw => lY
    rw [el] at NZ
    refine ⟨_, _, (_, _) :: (_, _) :: nw, rfl, FZ, news_mv2 NZ, ⟨⟨Nat.ne_of_gt lZ.2.1, Nat.ne_of_gt lZ.2.2.1, Nat.ne_of_gt lZ.2.2.2.1⟩, ⟨Nat.ne_of_gt lY.1, Nat.ne_of_gt lY.2.1, Nat.ne_of_gt lY.2.2.1⟩, off'⟩, trivial, fun p hp => .tail _ (.tail _ (hsub p hp)), by rw [List.length_append, hle]; rfl, fun j v y e1 e2 => ?_⟩
    rcases snoc_get hle e1 with e1 | ⟨rfl, rfl⟩
    · exact (hys j v y e1 e2).mono fun p hp => .tail _ (.tail _ hp)
    · have exy : d = y := Option.some.inj (hd'.symm.trans e2)
      rw [← exy]
      exact ⟨_, la, _, 0, ka, 0, v2, itsA, t6, rfl, .head _, .tail _ (.tail _ (hsub _ hma)), hsA, hdl, .tail _ (.head _)⟩
  · rintro G ys nw h tk ⟨hsub, hle, hys⟩ F' N' o1
    exact hret G ys nw h tk F' N' o1 hsub (by rw [hle, List.size_toArray, hlen]) hys
end SW7
section SW8
open PySem PySem.W PyProof.Rows PySem.Calls
set_option Elab.async false
set_option maxRecDepth 100000
set_option maxHeartbeats 0
open LCg
noncomputable def datO : Option Int → Dat
  | none => .none
  | some i => .int i
noncomputable def datS (ss : List Str) : Dat := .list (ss.map Dat.str)
noncomputable def datD (d : Dr) : Dat := .list [datS d.ags, datO d.dl, datS [lineOf d.row]]
theorem dat_strs {led : Led} {its : List Value} {ss : List Str} (h : StrsAre its ss) : DatAll led its (ss.map Dat.str) := by
  induction h with
  | nil => exact .nil
  | cons s t r ih => exact .cons (.str s t) ih
theorem dat_del {led : Led} {v : Value} {o : Option Int} (h : DelIs v o) : DatIn led v (datO o) := by
  cases o with
  | none => have e : v = .none := h; subst e; exact .none
  | some i => obtain ⟨t, e⟩ := h; subst e; exact .int i t
theorem MadeAt.dat {led : Led} {v : Value} {d : Dr} (h : MadeAt led v d) : DatIn led v (datD d) := by
  obtain ⟨e, l1, l2, k, k1, k2, dv, its, t, rfl, h2, h3, h4, h5, h6⟩ := h
  have h2' : (e, W.listOf (List.toArray [.ref l1, dv, .ref l2]) k) ∈ led := h2
  have h6' : (l2, W.listOf (List.toArray [.str (lineOf d.row) t]) k2) ∈ led := h6
  exact .list h2' (.cons (.list h3 (dat_strs h4)) (.cons (dat_del h5) (.cons (.list h6' (.cons (.str _ t) .nil)) .nil)))
theorem dat_all {led : Led} {α : Type} (f : α → Dat) : ∀ {ys : List Value} {dq : List α}, ys.length = dq.length → (∀ (i : Nat) v d, ys[i]? = some v → dq[i]? = some d → DatIn led v (f d)) → DatAll led ys (dq.map f)
  | [], [], _, _ => .nil
  | y :: ys, d :: dq, hl, h => .cons (h 0 y d rfl rfl) (dat_all f (by simpa using hl) fun i v d e1 e2 => h (i + 1) v d (by simpa using e1) (by simpa using e2))
theorem ok_strs {ss : List Str} (h : ∀ a ∈ ss, PyData.strOk a = true) (n : Nat) : kqdOk (n + 1) (datS ss) = true := by
  unfold datS kqdOk
  rw [List.all_map]
  refine List.all_eq_true.mpr fun a ha => ?_
  cases n <;> exact h a ha
theorem ok_del (o : Option Int) (n : Nat) : kqdOk n (datO o) = true := by cases o <;> cases n <;> rfl
theorem ok_d {d : Dr} (h : ∀ a ∈ d.ags, PyData.strOk a = true) (hl : PyData.strOk (lineOf d.row) = true) : kqdOk 8 (datD d) = true := by
  unfold datD
  show List.all _ (kqdOk 7) = true
  rw [List.all_cons, List.all_cons, List.all_cons, List.all_nil, ok_strs h, ok_del, ok_strs (fun a ha => by rw [List.mem_singleton.mp ha]; exact hl)]
  rfl
theorem strOk_app {a b : Str} : PyData.strOk (a ++ b) = (PyData.strOk a && PyData.strOk b) := by
  unfold PyData.strOk
  show (a.cps ++ b.cps).all _ = _
  simp
theorem line_ok {r : List Int} (h : r ∈ rowsAll) : PyData.strOk (lineOf r) = true := by
  have : ∀ r ∈ rowsAll, PyData.strOk (lineOf r) = true := by decide +kernel
  exact this r h
theorem made_eq {w : World} {A : Around} {prog : Program} {E : Value → Shared → Prop} {s : Shared} {h₀ : Heap} {L : Addr} {led : Led} {Q : Value → Shared → Prop} {G1 G2 : Addr} {ys zs : List Value} {k1 k2 : Nat} {dq : List Dr} (N : News h₀ L s.heap led) (hu : A.units + 64 < cLine)
    (hok : ∀ d ∈ dq, ∀ a ∈ d.ags, PyData.strOk a = true) (hrow : ∀ d ∈ dq, d.row ∈ rowsAll) (m1 : (G1, W.listOf (List.toArray ys) k1) ∈ led) (m2 : (G2, W.listOf (List.toArray zs) k2) ∈ led)
    (l1 : ys.length = dq.length) (l2 : zs.length = dq.length) (h1 : ∀ (i : Nat) v d, ys[i]? = some v → dq[i]? = some d → MadeAt led v d) (h2 : ∀ (i : Nat) v d, zs[i]? = some v → dq[i]? = some d → MadeAt led v d)
    (h : Q (.bool false) s) : wpAny (model prog w) A (compareOp .NotEq (.ref G1) (.ref G2)) Q E s := by
  have ok : ∀ d ∈ dq.map datD, kqdOk 8 d = true := fun d hd => by
    obtain ⟨e, he, rfl⟩ := List.mem_map.mp hd
    exact ok_d (hok e he) (line_ok (hrow e he))
  refine kqd_ne N m1 rfl rfl (dat_all datD l1 fun i v d e1 e2 => (h1 i v d e1 e2).dat) (fun p hp => hp) m2 rfl rfl (dat_all datD l2 fun i v d e1 e2 => (h2 i v d e1 e2).dat) (fun p hp => hp) ok ok hu ?_
  have e : ∀ (p : Prop) (i : Decidable p), p → Q (.bool (!@decide p i)) s := fun p i hp => by rw [@decide_eq_true p i hp]; exact h
  exact e _ _ rfl
end SW8
section SW9
local macro_rules | `(tactic| walk_at "none") => `(tactic| skip)
open PySem PySem.W PyProof.Rows PySem.Calls
set_option Elab.async false
set_option maxRecDepth 100000
set_option maxHeartbeats 0
open LCg
theorem join_ok {sep : Str} (hs : PyData.strOk sep = true) : ∀ {l : List Str}, (∀ x ∈ l, PyData.strOk x = true) → PyData.strOk (Str.join sep l) = true
  | [], _ => by show PyData.strOk Str.empty = true; decide +kernel
  | [x], h => h x (.head _)
  | x :: y :: r, h => by
    have ih := join_ok hs (l := y :: r) fun z hz => h z (.tail _ hz)
    have e : Str.join sep (x :: y :: r) = x ++ sep ++ Str.join sep (y :: r) := rfl
    rw [e, strOk_app, strOk_app, h x (.head _), hs, ih]; rfl
theorem glued_ok {sep : Str} (hs : PyData.strOk sep = true) {l : List Str} (h : ∀ x ∈ l, PyData.strOk x = true) : PyData.strOk (Txt.join sep l) = true := by
  unfold Txt.join
  rw [PySem.StrLaws.glued_eq_join]
  exact join_ok hs h
theorem cd_ok {i : Int} (h0 : 0 ≤ i) (h1 : i < 10) : PyData.strOk (Str.ofString "Crawl-delay: " ++ Str.ofString (toString i)) = true := by
  obtain rfl | rfl | rfl | rfl | rfl | rfl | rfl | rfl | rfl | rfl := ten_cases (by assumption) (by assumption)
  all_goals decide +kernel
theorem ent_ok {ags als : List Str} {o : Option Int} (okA : ∀ x ∈ ags, PyData.strOk x = true) (okL : ∀ x ∈ als, PyData.strOk x = true) (hdl : ∀ i, o = some i → 0 ≤ i ∧ i < 10) : PyData.strOk (entText ags o als) = true := by
  unfold entText
  split
  · decide +kernel
  · refine glued_ok (by decide +kernel) fun x hx => ?_
    unfold entLines at hx
    rcases List.mem_append.mp hx with hx | hx
    · rcases List.mem_append.mp hx with hx | hx
      · obtain ⟨a, ha, rfl⟩ := List.mem_map.mp hx
        unfold uaOf
        rw [strOk_app, okA a ha]; decide +kernel
      · cases o with
        | none => cases hx
        | some i =>
          rw [List.mem_singleton.mp hx]
          exact cd_ok (hdl i rfl).1 (hdl i rfl).2
    · exact okL x hx
theorem keep_ok {dq : List Dr} (h : ∀ d ∈ dq, ∀ a ∈ d.ags, PyData.strOk a = true) : ∀ a ∈ keepAgs dq, PyData.strOk a = true := fun a ha => by
  unfold keepAgs at ha
  have := (List.mem_filter.mp ha).1
  cases dq with
  | nil => cases this
  | cons d r => exact h d (.head _) a this
theorem news_sw {h₀ h : Heap} {L : Addr} {a b : Addr × Obj} {base tl : Led} (N : News h₀ L h (a :: ((b :: base) ++ tl))) : News h₀ L h (b :: (a :: (base ++ tl))) := fun p hp => N p (by
  simp only [List.mem_cons, List.cons_append] at hp ⊢
  rcases hp with h | h | h <;> simp [h])
theorem tx_ne {a : Addr × Obj} {t : Obj} {base tl : Led} (lQ : ∀ p ∈ ((142, t) :: base) ++ tl, @LT.lt Nat _ p.1 a.1) (O : Over ((142, t) :: base) tl) (hb : ∀ p ∈ base, p.1 ≠ 142) : ∀ p ∈ a :: (base ++ tl), p.1 ≠ 142 := fun p hp => by
  rcases List.mem_cons.mp hp with rfl | hp
  · exact Nat.ne_of_gt (lQ (142, t) (.head _))
  rcases List.mem_append.mp hp with hp | hp
  · exact hb p hp
  · exact (O (142, t) (.head _) p hp).symm
theorem text_eq {w : World} {A : Around} {prog : Program} {E : Value → Shared → Prop} {s : Shared} {h₀ : Heap} {L : Addr} {led : Led} {Q : Value → Shared → Prop} {a b l1 l2 g1 g2 : Addr} {its ls its1 ls1 : List Value} {k k' k1 k2 k3 k4 : Nat} {ags als : List Str} {o : Option Int} {e : Str} {t t' : Tok} {dv dv' : Value} (N : News h₀ L s.heap led) (hu : A.units + 64 < cLine)
    (ma : (a, W.listOf #[.ref l1, dv, .ref l2, .str e t] k) ∈ led) (m1 : (l1, W.listOf (List.toArray its) k1) ∈ led) (m2 : (l2, W.listOf (List.toArray ls) k2) ∈ led) (hS : StrsAre its ags) (hD : DelIs dv o) (hL : StrsAre ls als)
    (mb : (b, W.listOf #[.ref g1, dv', .ref g2, .str e t'] k') ∈ led) (m3 : (g1, W.listOf (List.toArray its1) k3) ∈ led) (m4 : (g2, W.listOf (List.toArray ls1) k4) ∈ led) (hS1 : StrsAre its1 ags) (hD1 : DelIs dv' o) (hL1 : StrsAre ls1 als)
    (okA : ∀ x ∈ ags, PyData.strOk x = true) (okL : ∀ x ∈ als, PyData.strOk x = true) (okE : PyData.strOk e = true) (h : Q (.bool true) s) : wpAny (model prog w) A (compareOp .Eq (.ref a) (.ref b)) Q E s := by
  have ma' : (a, W.listOf (List.toArray [.ref l1, dv, .ref l2, .str e t]) k) ∈ led := ma
  have mb' : (b, W.listOf (List.toArray [.ref g1, dv', .ref g2, .str e t']) k') ∈ led := mb
  have ok : ∀ d ∈ [datS ags, datO o, datS als, Dat.str e], kqdOk 8 d = true := fun d hd => by
    simp only [List.mem_cons, List.not_mem_nil, or_false] at hd
    rcases hd with rfl | rfl | rfl | rfl
    · exact ok_strs okA 7
    · exact ok_del o 8
    · exact ok_strs okL 7
    · exact okE
  refine kqd_eq N ma' rfl rfl (.cons (.list m1 (dat_strs hS)) (.cons (dat_del hD) (.cons (.list m2 (dat_strs hL)) (.cons (.str e t) .nil)))) (fun p hp => hp) mb' rfl rfl (.cons (.list m3 (dat_strs hS1)) (.cons (dat_del hD1) (.cons (.list m4 (dat_strs hL1)) (.cons (.str e t') .nil)))) (fun p hp => hp) ok ok hu ?_
  have ed : ∀ (p : Prop) (i : Decidable p), p → Q (.bool (@decide p i)) s := fun p i hp => by rw [@decide_eq_true p i hp]; exact h
  exact ed _ _ rfl
set_option hygiene false in
local macro_rules | `(tactic| walk_at "call ref") => `(tactic| ((with_reducible show wpAny _ _ (call (Value.ref 145) _) _ _ _); refine halted hstop ?_))
set_option hygiene false in
local macro_rules | `(tactic| walk_at "compareOp Eq ref ref") => `(tactic| refine halted hstop ?_)
theorem lw_ret (w : World) (mean mg mb) (more : List (Str × Const)) (vq : List Value) (ds : List Dr) (hlen : vq.length = ds.length) (h3 : 3 ≤ vq.length) (h8 : vq.length ≤ 8) (hrow : ∀ d ∈ ds, d.row ∈ rowsAll) (k : Nat) (D x : Addr) (r1 r2 r3 r4 r5 r6 r7 r8 r9 r10 r11 r12 r13 r14 r15 : Pos)
    (dp un : Nat) (gd : Option (List Code)) (outer : List Env) (A₀ : Around) (bs h₀ : Heap) (L fa : Addr) (m : Str → Option Value) (base : Led) (s : Shared) (Q : Flow → Shared → Prop) (E : Value → Shared → Prop)
    (hm0 : m (Str.ofString "drawn") = some (.ref D)) (hm1 : m (Str.ofString "whole") = some (.ref x))
    (B : Below A₀ bs outer h₀) (F : Fr h₀ L s.heap m) (X : (hK w.params).In h₀) (N : News h₀ L s.heap ((142, tabObj #[]) :: base)) (T : Top VW LS mean mg mb h₀) (C : CodeHd h₀ 144 142) (hlt : ∀ p ∈ base, p.1 ≠ 142) (hdp : dp + 400 < 1000) (hun : un + 8 * 400 < 9900)
    (mD : (D, W.listOf (List.toArray vq) k) ∈ base) (hrec : ∀ (i : Nat) v d, vq[i]? = some v → ds[i]? = some d → DrAt base v d.ags d.dl d.row)
    (hags : ∀ d ∈ ds, d.ags.length ≤ 3 ∧ ∀ a ∈ d.ags, a.length ≤ 1000 ∧ PyData.strOk a = true) (hdls : ∀ d ∈ ds, ∀ i, d.dl = some i → 0 ≤ i ∧ i < 10)
    (hW : WholeIs w base (.ref x) (ordD ds))
    (hret : ∀ W' h' tk', Fr h₀ L h' m → News h₀ L h' W' → (∀ p ∈ base, p ∈ W') → (∃ ps, (142, tabObj ps) ∈ W') → Q (.ret (.bool true)) { s with heap := h', toks := tk' }) :
    wpAny (model PG w) (ktrTop dp un gd (Str.ofString "law") (lwScope more) L fa (.ref 149) [] outer) (exec (.Return (some (.Compare (.List [.Attribute (.Name (Str.ofString "whole") r1) (Str.ofString "useragents") r2, .Attribute (.Name (Str.ofString "whole") r3) (Str.ofString "delay") r4, .Attribute (.Name (Str.ofString "whole") r5) (Str.ofString "rulelines") r6, .Call (.Name (Str.ofString "str") r7) [.Name (Str.ofString "whole") r8] [] r9] r10) [.Eq] [.Call (.Name (Str.ofString "_law_text") r11) [.Name (Str.ofString "drawn") r12] [] r13] r14)) r15) (lwEnv more L fa)) Q E s := by
  w_top off
  revert X T C
  unfold PG; k_fill
  intro X T C
  obtain ⟨x', its, dv, ls, ex, hE, hS, hDl, hL⟩ := hW
  cases ex
  have hE' := hE
  obtain ⟨x', dd, l1, l2, k1, k2, t1, t2, t3, t4, ex, mx, md, ml1, ml2⟩ := hE'
  cases ex
  have hn : 0 < ds.length := by omega
  have lD : (ordD ds).length = ds.length := by rw [ordD, List.length_map, sortP_len hn]
  have inD : ∀ d ∈ ordD ds, d ∈ ds := fun d hd => ord_mem hn hd
  have zA : (keepAgs (ordD ds)).length ≤ 3 := keep_len fun d hd => (hags d (inD d hd)).1
  have hz1 : its.length ≤ 3 := by rw [hS.length]; exact zA
  have hz2 : 1 ≤ ls.length := by rw [hL.length, List.length_map]; omega
  have hz3 : ls.length ≤ 8 := by rw [hL.length, List.length_map]; omega
  have hag : ∀ a ∈ keepAgs (ordD ds), a.length ≤ 1000 := fun a ha => keep_mem (fun d hd a ha => ((hags d (inD d hd)).2 a ha).1) a ha
  have hdn : ∀ i ∈ (ordD ds).filterMap (·.dl), 0 ≤ i ∧ i < 10 := fun i hi => by
    obtain ⟨d, hd, e⟩ := List.mem_filterMap.mp hi
    exact hdls d (inD d hd) i e
  have hdl : ∀ i, ((ordD ds).filterMap (·.dl)).getLast? = some i → 0 ≤ i ∧ i < 10 := fun i e => hdn i (List.mem_of_getLast? e)
  have hsum := ent_sum hag (ns := (ordD ds).filterMap (·.dl)) hdn (als := (ordD ds).map fun d => lineOf d.row) zA (by rw [List.length_map]; omega) (fun x hx => by
    obtain ⟨d, hd, rfl⟩ := List.mem_map.mp hx
    exact line_len (hrow d (inD d hd)))
  have okA : ∀ a ∈ keepAgs (ordD ds), PyData.strOk a = true := fun a ha => keep_ok (fun d hd a ha => ((hags d (inD d hd)).2 a ha).2) a ha
  have okL : ∀ a ∈ (ordD ds).map fun d => lineOf d.row, PyData.strOk a = true := fun a ha => by
    obtain ⟨d, hd, rfl⟩ := List.mem_map.mp ha
    exact line_ok (hrow d (inD d hd))
  have okE : PyData.strOk (entText (keepAgs (ordD ds)) ((ordD ds).filterMap (·.dl)).getLast? ((ordD ds).map fun d => lineOf d.row)) = true := ent_ok okA okL hdl
  have C9 := t_str w mean mg mb (.ref x) x its ls _ _ _ _ hS hL hz1 hz2 hz3 hag hDl hdl hsum
  have P9 := hE.mono fun p hp => List.Mem.tail (142, tabObj #[]) hp
  rcases delv_of hDl with rfl | ⟨di, dt, rfl⟩
  all_goals
    have hstop := True.intro
    k_steps
    ((rename News h₀ L _ _ => NQ); (rename Fr h₀ L _ _ => FQ); (rename ∀ p ∈ ((142, tabObj #[]) :: base) ++ tl9, p.1 < _ => lQ); (k_dflt (refine' t_text w mean mg mb D k vq ds hlen (by omega) (by omega) hrow _ _ _ _ _ _ _ _ _ _ _ _ _ _ _ _ _ _ (by k_asm) FQ (by k_asm) (news_sw NQ) (by k_asm) C rfl (by k_room) (by k_units) (tx_ne lQ O9 hlt) (List.Mem.tail _ (List.mem_append_left _ mD)) (fun i v d e1 e2 => (hrec i v d e1 e2).mono fun p hp => List.Mem.tail _ (List.mem_append_left _ hp)) (fun d hd => ⟨(hags d hd).1, fun a ha => ((hags d hd).2 a ha).1⟩) hdls ?_)); intro R G1 G2 dv5 t5 kR its1 its2 kk1 kk2 ps5 tl5 h5 tk5 F5 N5 O5 ne5 mR mG1 sA1 dD1 mG2 sL1)
    k_steps
    (k_dflt (refine' text_eq N5 (by k_units) (List.Mem.tail _ (List.mem_append_left _ (List.Mem.head _))) (List.Mem.tail _ (List.mem_append_left _ (List.Mem.tail _ (List.mem_append_left _ ml1)))) (List.Mem.tail _ (List.mem_append_left _ (List.Mem.tail _ (List.mem_append_left _ ml2)))) hS hDl hL (List.Mem.tail _ (List.mem_append_right _ mR)) (List.Mem.tail _ (List.mem_append_right _ mG1)) (List.Mem.tail _ (List.mem_append_right _ mG2)) sA1 dD1 sL1 okA okL okE ?_))
    k_steps
  all_goals exact hret _ _ _ F5 N5 (fun p hp => List.Mem.tail _ (List.mem_append_left _ (List.Mem.tail _ (List.mem_append_left _ hp)))) ⟨_, List.Mem.head _⟩
end SW9
section SW11
open PySem PySem.W PyProof.Rows PySem.Calls
set_option Elab.async false
set_option maxRecDepth 100000
set_option maxHeartbeats 0
theorem ord_eq {n : Nat} {ds : List Dr} (hl : n = ds.length) (hn : 0 < n) (hrow : ∀ d ∈ ds, d.row ∈ rowsAll) : ((sortP n (drLt txLt ds)).map fun i => ds.getD i noDr) = ordD ds := by
  subst hl
  unfold ordD
  rw [sortP_congr hn (lt' := drLt rowLt ds) fun i j hi hj => ?_]
  unfold drLt
  have mem : ∀ i, i < ds.length → (ds.getD i noDr).row ∈ rowsAll := fun i hi => by
    rw [List.getD_eq_getElem?_getD, List.getElem?_eq_getElem hi]
    exact hrow _ (List.getElem_mem hi)
  exact tx_eq (mem i hi) (mem j hj)
noncomputable def drD (x : Int) : Dr := ⟨agsOf (x.fmod 4), delOf x, rowOf x⟩
theorem mem_rows {r : List Int} (h1 : 1 ≤ r.length) (h4 : r.length ≤ 4) (h : ∀ x ∈ r, x ∈ octs) : r ∈ rowsAll := by
  unfold rowsAll
  match r, h1, h4, h with
  | [a], _, _, h => exact List.mem_append_left _ (List.mem_append_left _ (List.mem_append_left _ (List.mem_map.mpr ⟨a, h a (by simp), rfl⟩)))
  | [a, b], _, _, h => exact List.mem_append_left _ (List.mem_append_left _ (List.mem_append_right _ (List.mem_flatMap.mpr ⟨a, h a (by simp), List.mem_map.mpr ⟨b, h b (by simp), rfl⟩⟩)))
  | [a, b, c], _, _, h => exact List.mem_append_left _ (List.mem_append_right _ (List.mem_flatMap.mpr ⟨a, h a (by simp), List.mem_flatMap.mpr ⟨b, h b (by simp), List.mem_map.mpr ⟨c, h c (by simp), rfl⟩⟩⟩))
  | [a, b, c, d], _, _, h => exact List.mem_append_right _ (List.mem_flatMap.mpr ⟨a, h a (by simp), List.mem_flatMap.mpr ⟨b, h b (by simp), List.mem_flatMap.mpr ⟨c, h c (by simp), List.mem_map.mpr ⟨d, h d (by simp), rfl⟩⟩⟩⟩)
  | _ :: _ :: _ :: _ :: _ :: _, _, h4, _ => simp at h4
theorem oct_get (i : Nat) : ([0, 3, 255, 65] : List Int).getD i 0 ∈ octs := by
  match i with
  | 0 => decide
  | 1 => decide
  | 2 => decide
  | 3 => decide
  | _ + 4 => exact (by decide : (0 : Int) ∈ octs)
theorem rowOf_mem (x : Int) : rowOf x ∈ rowsAll := by
  have hm := mod4 (x.fdiv 20)
  refine mem_rows ?_ ?_ fun y hy => ?_
  · unfold rowOf rangeKs; rw [List.length_map]; simp; omega
  · unfold rowOf rangeKs; rw [List.length_map]; simp; omega
  · unfold rowOf at hy
    obtain ⟨k, _, rfl⟩ := List.mem_map.mp hy
    exact oct_get _
theorem ags_ok (i : Int) : (1 ≤ (agsOf i).length ∧ (agsOf i).length ≤ 3) ∧ ∀ a ∈ agsOf i, a.length ≤ 1000 ∧ PyData.strOk a = true := by
  have all : ∀ l ∈ ([["*", "fig", "*"], ["*", "plum"], ["plum", "fig", "*"], ["fig"]] : List (List Str)), (1 ≤ l.length ∧ l.length ≤ 3) ∧ ∀ a ∈ l, a.length ≤ 1000 ∧ PyData.strOk a = true := by decide +kernel
  refine all _ ?_
  unfold agsOf
  split
  · simp
  split
  · simp
  split <;> simp
theorem del_ok {x i : Int} (h : delOf x = some i) : 0 ≤ i ∧ i < 10 := by
  unfold delOf at h
  split at h
  · have hb : 0 ≤ (x.fdiv 4).fmod 5 ∧ (x.fdiv 4).fmod 5 < 5 := by rw [Int.fmod_eq_emod_of_nonneg _ (by decide)]; omega
    have := Option.some.inj h
    omega
  · cases h
end SW11
section SWI
open PySem PySem.W PyProof.Rows PySem.Calls
set_option Elab.async false
set_option maxRecDepth 100000
set_option maxHeartbeats 0
open LCg
theorem lw_if (w : World) (mean mg mb) (more m2 : List (Str × Const)) (vq ml : List Value) (dq : List Dr) (hlen : vq.length = dq.length) (hml : ml.length = dq.length) (h64 : vq.length < 64) (hrow : ∀ d ∈ dq, d.row ∈ rowsAll) (hok : ∀ d ∈ dq, ∀ a ∈ d.ags, PyData.strOk a = true) (k km : Nat) (D M : Addr) (r1 r2 r3 r4 r5 r6 r7 r8 r9 r10 r11 r12 r13 r14 r15 r16 r17 r18 r19 r20 : Pos)
    (dp un : Nat) (gd : Option (List Code)) (outer : List Env) (A₀ : Around) (bs h₀ : Heap) (L fa : Addr) (m : Str → Option Value) (base : Led) (s : Shared) (Q : Flow → Shared → Prop) (E : Value → Shared → Prop)
    (hm0 : m (Str.ofString "drawn") = some (.ref D)) (hm1 : m (Str.ofString "made") = some (.ref M))
    (B : Below A₀ bs outer h₀) (F : Fr h₀ L s.heap m) (X : (hK w.params).In h₀) (N : News h₀ L s.heap base) (T : Top VW LS mean mg mb h₀) (hdp : dp + 100 < 1000) (hun : un + 8 * 100 < 9900)
    (mD : (D, W.listOf (List.toArray vq) k) ∈ base) (hrec : ∀ (i : Nat) v d, vq[i]? = some v → dq[i]? = some d → DrAt base v d.ags d.dl d.row)
    (mM : (M, W.listOf (List.toArray ml) km) ∈ base) (hmade : ∀ (i : Nat) v d, ml[i]? = some v → dq[i]? = some d → MadeAt base v d)
    (hret : ∀ W' h' tk', Fr h₀ L h' m → News h₀ L h' W' → (∀ p ∈ base, p ∈ W') → Q .next { s with heap := h', toks := tk' }) :
    wpAny (model PG w) (ktrTop dp un gd (Str.ofString "law") (lwScope more) L fa (.ref 149) [] outer) (exec (.If (.Compare (.Name (Str.ofString "made") r1) [.NotEq] [lwRhs m2 r2 r3 r4 r5 r6 r7 r8 r9 r10 r11 r12 r13 r14 r15 r16] r17) [.Return (some (.Constant (.bool false) 0 r18)) r19] [] r20) (lwEnv more L fa)) Q E s := by
  w_top off
  revert X T
  unfold PG; k_fill
  intro X T
  k_steps
  (k_dflt (refine' lw_rhs w mean mg mb more m2 vq dq hlen h64 hrow k D _ _ _ _ _ _ _ _ _ _ _ _ _ _ _ dp un gd outer A₀ bs h₀ L fa m base _ _ _ hm0 B F X N T hdp hun mD hrec ?_)); intro G9 ys9 W9 h9 tk9 F9 N9 o9 hs9 l9 hr9
  k_steps
  (k_dflt (refine' made_eq N9 (by k_units) hok hrow (List.Mem.tail _ (hs9 _ mM)) (List.Mem.head _) hml l9 (fun i v d e1 e2 => (hmade i v d e1 e2).mono fun p hp => List.Mem.tail _ (hs9 _ hp)) (fun i v d e1 e2 => (hr9 i v d e1 e2).mono fun p hp => List.Mem.tail _ hp) ?_))
  k_steps
  exact hret _ _ _ F9 N9 (fun p hp => .tail _ (hs9 _ hp))
end SWI
section SW12
open PySem PySem.W PyProof.Rows PySem.Calls
set_option Elab.async false
set_option maxRecDepth 100000
set_option maxHeartbeats 0
open LCg
noncomputable def cutL (f : Addr → Bool) (W : Led) : Led := W.filter fun p => f p.1
theorem cut_sub {f : Addr → Bool} {W : Led} : ∀ p ∈ cutL f W, p ∈ W := fun p hp => (List.mem_filter.mp hp).1
theorem cut_at {f : Addr → Bool} {W : Led} : ∀ p ∈ cutL f W, f p.1 = true := fun p hp => (List.mem_filter.mp hp).2
theorem cut_in {f : Addr → Bool} {W : Led} {p : Addr × Obj} (hp : p ∈ W) (hf : f p.1 = true) : p ∈ cutL f W := List.mem_filter.mpr ⟨hp, hf⟩
theorem cut_mem {f : Addr → Bool} {h₀ h : Heap} {L : Addr} {W : Led} (N : News h₀ L h W) (hf : ∀ q, f q = false → (q, tabObj #[]) ∈ W) : ∀ p ∈ W, p.2 ≠ tabObj #[] → p ∈ cutL f W := fun p hp hne => by
  refine cut_in hp ?_
  cases e : f p.1 with
  | true => rfl
  | false => exact absurd (Option.some.inj ((N _ hp).1.symm.trans (N _ (hf _ e)).1)) hne
noncomputable def tab3 (q : Addr) : Bool := !(q == 147 || q == 102 || q == 130)
noncomputable def tab1 (q : Addr) : Bool := !(q == 142)
theorem tab3_no {q : Addr} (h : tab3 q = false) : q = 147 ∨ q = 102 ∨ q = 130 := by
  simp only [tab3, Bool.not_eq_false', Bool.or_eq_true, beq_iff_eq] at h
  rcases h with (h | h) | h
  · exact .inl h
  · exact .inr (.inl h)
  · exact .inr (.inr h)
theorem tab3_so {q : Addr} (h : tab3 q = true) : q ≠ 130 ∧ q ≠ 102 ∧ q ≠ 147 := by
  simp only [tab3, Bool.not_eq_true', Bool.or_eq_false_iff, beq_eq_false_iff_ne] at h
  exact ⟨h.2, h.1.2, h.1.1⟩
theorem tab1_no {q : Addr} (h : tab1 q = false) : q = 142 := by
  simpa only [tab1, Bool.not_eq_false', beq_iff_eq] using h
theorem tab1_so {q : Addr} (h : tab1 q = true) : q ≠ 142 := by
  simpa only [tab1, Bool.not_eq_true', beq_eq_false_iff_ne] using h
theorem list_ne {a : Array Value} {k : Nat} : W.listOf a k ≠ tabObj #[] := fun e => by have := congrArg Obj.cls e; cases this
theorem inst_ne {a b : Addr} : instObj a b ≠ tabObj #[] := fun e => by have := congrArg Obj.cls e; cases this
theorem ent_ne {w : World} {t1 t2 t3 t4 : Tok} {l1 l2 : Addr} {dv : Value} : entDict w t1 t2 t3 t4 l1 l2 dv ≠ tabObj #[] := fun e => by have := congrArg Obj.cls e; cases this
theorem DrAt.cut {a b : Led} {v : Value} {ags : List Str} {dl : Option Int} {row : List Int} (h : DrAt a v ags dl row) (hs : ∀ p ∈ a, p.2 ≠ tabObj #[] → p ∈ b) : DrAt b v ags dl row :=
  let ⟨l, la, lr, k, ka, kr, dv, itsA, itsR, e, h1, h2, h3, h4, h5, h6⟩ := h
  ⟨l, la, lr, k, ka, kr, dv, itsA, itsR, e, hs _ h1 list_ne, hs _ h2 list_ne, h3, h4, hs _ h5 list_ne, h6⟩
theorem EntAt.cut {w : World} {a b : Led} {v : Value} {its : List Value} {dv : Value} {ls : List Value} (h : EntAt w a v its dv ls) (hs : ∀ p ∈ a, p.2 ≠ tabObj #[] → p ∈ b) : EntAt w b v its dv ls :=
  let ⟨x, d, l1, l2, k1, k2, t1, t2, t3, t4, e, h1, h2, h3, h4⟩ := h
  ⟨x, d, l1, l2, k1, k2, t1, t2, t3, t4, e, hs _ h1 inst_ne, hs _ h2 ent_ne, hs _ h3 list_ne, hs _ h4 list_ne⟩
theorem RecAt.cut {w : World} {a b : Led} {v : Value} {d : Dr} (h : RecAt w a v d) (hs : ∀ p ∈ a, p.2 ≠ tabObj #[] → p ∈ b) : RecAt w b v d :=
  let ⟨x, its, dv, t, e, h1, h2, h3⟩ := h
  ⟨x, its, dv, t, e, h1.cut hs, h2, h3⟩
theorem WholeIs.cut {w : World} {a b : Led} {v : Value} {dq : List Dr} (h : WholeIs w a v dq) (hs : ∀ p ∈ a, p.2 ≠ tabObj #[] → p ∈ b) : WholeIs w b v dq :=
  let ⟨x, its, dv, ls, e, h1, h2, h3, h4⟩ := h
  ⟨x, its, dv, ls, e, h1.cut hs, h2, h3, h4⟩
theorem EntAt.mono3 {w : World} {a b : Led} {v : Value} {its : List Value} {dv : Value} {ls : List Value} (h : EntAt w a v its dv ls) (hs : ∀ p ∈ a, p ∈ b) : EntAt w b v its dv ls := h.cut fun p hp _ => hs p hp
theorem drawn_len (ns : List Int) : 3 ≤ (drawnOf ns).length ∧ (drawnOf ns).length ≤ 8 := by
  unfold drawnOf
  rw [List.length_append, List.length_take]
  simp only [List.length_cons, List.length_nil]
  omega
theorem dr_get {xs : List Int} {i : Nat} {d : Dr} (e : (xs.map drD)[i]? = some d) : ∃ x, xs[i]? = some x ∧ d = drD x := by
  rw [List.getElem?_map] at e
  obtain ⟨x, hx, e⟩ := Option.map_eq_some_iff.mp e
  exact ⟨x, hx, e.symm⟩
theorem dr_mem {xs : List Int} {d : Dr} (h : d ∈ xs.map drD) : ∃ x, d = drD x := by
  obtain ⟨x, _, e⟩ := List.mem_map.mp h
  exact ⟨x, e.symm⟩
theorem law_try : PySem.Challenge.rw_ik0147_01.Holds := by
  refine holds_law law_said fun said => ?_
  refine holds_open (q := hV) (loose := hLs) (Xt := fun s => xlAt hV [] s && recOk (RowW.records PySem.Challenge.rw_ik0147_01.row.toRowW) s) (XP := XL hV []) (Yf := Hook.obs hH) (Ya := Hook.val hH) (YP := Hook.says (kmHook hK hAs hAs_ok [142, 130, 102, 147])) (N := 1790) law_left (Hook.of hH) (Hook.keeps hH) (fun s e => xl_of s (Bool.and_eq_true_iff.mp e).1) XL.keeps (by rfl) (by rfl) (by rfl) (fun s e => recFacts_of (Bool.and_eq_true_iff.mp e).2) (by rfl) (by first | assumption | decide +kernel) (by decide +kernel) ⟨rfl, rfl, rfl, rfl, rfl, by decide +kernel⟩ ?hw ?hc
  case hw => w_witness2
  clear said
  k_go0
  all_goals try k_fold
  rename Below callerA _ _ _ => B
  rename Fr _ _ _ _ => F
  rename News _ _ _ _ => N
  rename IntsAre _ _ => hI
  rename Heap.IsList (ghostOf _ _) _ _ => hl0
  rename Frag.In _ (ghostOf _ _) => X
  rename Top topProg _ _ _ _ _ => T
  rename Top hV _ _ _ _ _ => T0
  rename ¬ _ < _ => h63
  with_reducible rename CodeHd _ 144 142 => CA
  with_reducible rename CodeHd _ 134 130 => CB
  with_reducible rename CodeHd _ 106 102 => CC
  with_reducible rename CodeHd _ 149 147 => CD
  have hSM : ∃ o, (ghostOf _ [(144, 142), (134, 130), (106, 102), (149, 147)]).get? sysModules = some o := let ⟨_, a, _⟩ := (T0.seer (by decide +kernel)).mods; let ⟨o, _, _, e, _⟩ := ghost_ns hT9 a; ⟨o, e⟩
  have hlen0 := hI.length
  have h63' := Int.not_lt.mp h63
  refine wpAny_execs_cons ?_
  apply lw_drawn
  case hI => exact hI
  case hl0 => exact hl0
  case B => exact B
  case N => exact N
  case F => exact F
  case X => exact X
  case T => exact T
  case hm0 => exact rfl
  case hsw => with_unfolding_all rfl
  case hz => omega
  case hdp => decide
  case hun => decide
  case hret =>
    rename List Int => ns
    intro D vs W1 h1 tk1 F1 N1 O1 S1 l1 d1
    obtain ⟨m1, F1, e1, _⟩ := fr_abs F1
    obtain ⟨ds, hds⟩ : ∃ ds, ds = (drawnOf ns).map drD := ⟨_, rfl⟩
    have hn := drawn_len ns
    have lv : vs.length = ds.length := by rw [hds, List.length_map, l1]
    have lb : 3 ≤ vs.length ∧ vs.length ≤ 8 := by rw [l1]; exact hn
    have hrow : ∀ d ∈ ds, d.row ∈ rowsAll := fun d hd => by
      rw [hds] at hd
      obtain ⟨x, rfl⟩ := dr_mem hd
      exact rowOf_mem x
    have hags : ∀ d ∈ ds, (1 ≤ d.ags.length ∧ d.ags.length ≤ 3) ∧ ∀ a ∈ d.ags, a.length ≤ 1000 ∧ PyData.strOk a = true := fun d hd => by
      rw [hds] at hd
      obtain ⟨x, rfl⟩ := dr_mem hd
      exact ags_ok _
    have hdls : ∀ d ∈ ds, ∀ i, d.dl = some i → 0 ≤ i ∧ i < 10 := fun d hd => by
      rw [hds] at hd
      obtain ⟨x, rfl⟩ := dr_mem hd
      exact fun i e => del_ok e
    have d1' : ∀ (i : Nat) v d, vs[i]? = some v → ds[i]? = some d → DrAt W1 v d.ags d.dl d.row := fun i v d a b => by
      rw [hds] at b
      obtain ⟨x, hx, rfl⟩ := dr_get b
      exact d1 i v x a hx
    clear d1 hds
    refine wpAny_execs_cons ?_
    apply lw_records
    case B => exact B
    case F => exact F1
    case N => exact N1
    case X => exact X
    case T => exact T
    case mD => exact List.Mem.head _
    case hm0 => exact e1
    case hlen => exact lv
    case h64 => omega
    case hrow => exact hrow
    case hags => exact fun d hd => (hags d hd).1
    case hrec => exact fun i v d a b => (d1' i v d a b).mono fun p hp => .tail _ hp
    case hsw => with_unfolding_all rfl
    case hdp => decide
    case hun => decide
    intro G rs W2 h2 tk2 F2 N2 O2 S2 l2 d2
    obtain ⟨m2, F2, g1, g2⟩ := fr_abs F2
    have g2 := g2 _ _ (by decide) e1
    have hf3 : ∀ q, tab3 q = false → (q, tabObj #[]) ∈ (G, lst rs) :: W2 := fun q hq => by
      refine .tail _ (S2 _ (.tail _ (S1 _ ?_)))
      rcases tab3_no hq with rfl | rfl | rfl
      · exact .tail _ (.tail _ (.tail _ (.head _)))
      · exact .tail _ (.tail _ (.head _))
      · exact .tail _ (.head _)
    have cm := cut_mem N2 hf3
    refine wpAny_execs_cons ?_
    apply lw_whole (base := cutL tab3 ((G, lst rs) :: W2))
    case B => exact B
    case F => exact F2
    case N =>
     exact fun p hp => by
      rcases List.mem_cons.mp hp with rfl | hp
      · exact N2 _ (hf3 147 rfl)
      rcases List.mem_cons.mp hp with rfl | hp
      · exact N2 _ (hf3 102 rfl)
      rcases List.mem_cons.mp hp with rfl | hp
      · exact N2 _ (hf3 130 rfl)
      exact N2 _ (cut_sub p hp)
    case X => exact X
    case T => exact T
    case C1 => exact CB
    case C2 => exact CC
    case C3 => exact CD
    case hSM => exact hSM
    case hlt => exact fun p hp => tab3_so (cut_at p hp)
    case mG => exact cm _ (.head _) list_ne
    case hm0 => exact g1
    case hlen => exact l2
    case h3 => omega
    case h8 => omega
    case hrow => exact hrow
    case hags => exact fun d hd => (hags d hd).1.2
    case hrec => exact fun i v d a b => (d2 i v d a b).cut fun p hp hq => cm p (.tail _ hp) hq
    case hdp => decide
    case hun => decide
    intro v W3 h3 tk3 F3 N3 S3 hG3 hW
    obtain ⟨pa, pb, pc, ga, gb, gc⟩ := hG3
    rw [ord_eq l2 (by omega) hrow] at hW
    obtain ⟨x, rfl⟩ : ∃ x, v = .ref x := let ⟨x, _, _, _, e, _, _, _, _⟩ := hW; ⟨x, e⟩
    obtain ⟨m3, F3, i1, i2⟩ := fr_abs F3
    have i3 := i2 _ _ (by decide) g1
    have i4 := i2 _ _ (by decide) g2
    refine wpAny_execs_cons ?_
    apply lw_made
    case B => exact B
    case F => exact F3
    case N => exact N3
    case X => exact X
    case T => exact T
    case mG => exact S3 _ (cm _ (.head _) list_ne)
    case hm0 => exact i3
    case hlen => exact l2
    case h64 => omega
    case hrec => exact fun i v d a b => (d2 i v d a b).cut fun p hp hq => S3 _ (cm p (.tail _ hp) hq)
    case hsw => with_unfolding_all rfl
    case hdp => decide
    case hun => decide
    intro M ys W4 h4 tk4 F4 N4 O4 S4 l4 d4
    obtain ⟨m4, F4, j1, j2⟩ := fr_abs F4
    have j3 := j2 _ _ (by decide) i1
    have j4 := j2 _ _ (by decide) i4
    have mD4 : (D, lst vs) ∈ W4 := S4 _ (S3 _ (cm _ (.tail _ (S2 _ (.head _))) list_ne))
    have d14 : ∀ (i : Nat) v d, vs[i]? = some v → ds[i]? = some d → DrAt W4 v d.ags d.dl d.row := fun i v d a b => (d1' i v d a b).cut fun p hp hq => S4 _ (S3 _ (cm _ (.tail _ (S2 _ (.tail _ hp))) hq))
    refine wpAny_execs_cons ?_
    apply lw_if
    case B => exact B
    case F => exact F4
    case N => exact N4
    case X => exact X
    case T => exact T
    case mD => exact .tail _ mD4
    case mM => exact .head _
    case hm0 => exact j4
    case hm1 => exact j1
    case hlen => exact lv
    case hml => exact l4
    case h64 => omega
    case hrow => exact hrow
    case hok => exact fun d hd a ha => ((hags d hd).2 a ha).2
    case hrec => exact fun i v d a b => (d14 i v d a b).mono fun p hp => .tail _ hp
    case hmade => exact fun i v d a b => (d4 i v d a b).mono fun p hp => .tail _ hp
    case hdp => decide
    case hun => decide
    intro W5 h5 tk5 F5 N5 S5
    have hf1 : ∀ q, tab1 q = false → (q, tabObj #[]) ∈ W5 := fun q hq => by
      obtain rfl := tab1_no hq
      exact S5 _ (.tail _ (S4 _ (S3 _ (cut_in (.tail _ (S2 _ (.tail _ (S1 _ (.head _))))) rfl))))
    have cm1 := cut_mem N5 hf1
    refine wpAny_execs_cons ?_
    apply lw_ret (base := cutL tab1 W5)
    case B => exact B
    case F => exact F5
    case N =>
     exact fun p hp => by
      rcases List.mem_cons.mp hp with rfl | hp
      · exact N5 _ (hf1 142 rfl)
      exact N5 _ (cut_sub p hp)
    case X => exact X
    case T => exact T
    case C => exact CA
    case hlt => exact fun p hp => tab1_so (cut_at p hp)
    case mD => exact cm1 _ (S5 _ (.tail _ mD4)) list_ne
    case hm0 => exact j4
    case hm1 => exact j3
    case hW => exact hW.cut fun p hp hq => cm1 _ (S5 _ (.tail _ (S4 _ hp))) hq
    case hlen => exact lv
    case h3 => omega
    case h8 => omega
    case hrow => exact hrow
    case hags => exact fun d hd => ⟨(hags d hd).1.2, (hags d hd).2⟩
    case hdls => exact hdls
    case hrec => exact fun i v d a b => (d14 i v d a b).cut fun p hp hq => cm1 _ (S5 _ (.tail _ hp)) hq
    case hdp => decide
    case hun => decide
    intro W6 h6 tk6 F6 N6 S6 hG6
    obtain ⟨pd, gd⟩ := hG6
    have up : ∀ {q : Addr} {ps : Array Value}, (q, tabObj ps) ∈ W3 → tab1 q = true → (q, tabObj ps) ∈ W6 := fun hq hf => S6 _ (cut_in (S5 _ (.tail _ (S4 _ hq))) hf)
    dsimp only [wpAny_execs_cons]
    refine ⟨?_, GrownAt.of N6 gd, GrownAt.of N6 (up gc rfl), GrownAt.of N6 (up gb rfl), GrownAt.of N6 (up ga rfl), trivial⟩
    wrow_close
end SW12
end Rest
end Mine
theorem PySem.Challenge.cw_ik0147_01_holds : PySem.Challenge.rw_ik0147_01.Holds :=
  Mine.law_try
