import PyProof.Rows.All
import Wide.All
import OpenK.AllK
import Wide.FinOn
import PySem.Challenge.RW_xe0054_01
set_option Elab.async false
set_option maxRecDepth 100000
section BasePart
open PySem PySem.W PyProof.Rows PySem.Calls
namespace Mine
def alph : List Nat := [97, 65, 98, 201, 32, 9, 10, 45, 49]
structure TextOk (x : Str) : Prop where
  signs : ∀ c ∈ x.cps.toList, c ∈ alph
  len : x.length ≤ 63
theorem TextOk.mega {x : Str} (h : TextOk x) : x.length ≤ 1048576 := Nat.le_trans h.len (by decide)
theorem item_ok (a : Int) : ∃ c, c ∈ alph ∧ Txt.item (Str.ofString "aAbÉ \t\n-1") (Int.fmod a 9) = ⟨#[c]⟩ := by
  have h0 : 0 ≤ Int.fmod a 9 := Int.fmod_nonneg_of_pos a (by decide)
  have h1 : Int.fmod a 9 < 9 := Int.fmod_lt_of_pos a (by decide)
  generalize Int.fmod a 9 = r at h0 h1
  have h : r = 0 ∨ r = 1 ∨ r = 2 ∨ r = 3 ∨ r = 4 ∨ r = 5 ∨ r = 6 ∨ r = 7 ∨ r = 8 := by omega
  rcases h with rfl | rfl | rfl | rfl | rfl | rfl | rfl | rfl | rfl
  · exact ⟨97, by decide, by decide +kernel⟩
  · exact ⟨65, by decide, by decide +kernel⟩
  · exact ⟨98, by decide, by decide +kernel⟩
  · exact ⟨201, by decide, by decide +kernel⟩
  · exact ⟨32, by decide, by decide +kernel⟩
  · exact ⟨9, by decide, by decide +kernel⟩
  · exact ⟨10, by decide, by decide +kernel⟩
  · exact ⟨45, by decide, by decide +kernel⟩
  · exact ⟨49, by decide, by decide +kernel⟩
theorem join_cons (sep x : Str) (r : List Str) : Str.join sep (x :: r) = if r = [] then x else x ++ sep ++ Str.join sep r := by
  cases r with
  | nil => rfl
  | cons y r => rfl
theorem join_empty_mem : ∀ (l : List Str) (c : Nat), c ∈ (Str.join (Str.ofString "") l).cps.toList → ∃ x ∈ l, c ∈ x.cps.toList
  | [], c, h => by
    have : (Str.join (Str.ofString "") []).cps.toList = [] := rfl
    rw [this] at h; cases h
  | [x], c, h => ⟨x, List.mem_singleton.mpr rfl, h⟩
  | x :: y :: r, c, h => by
    have e : (Str.join (Str.ofString "") (x :: y :: r)).cps.toList = x.cps.toList ++ (Str.ofString "").cps.toList ++ (Str.join (Str.ofString "") (y :: r)).cps.toList := by
      show (x ++ (Str.ofString "") ++ Str.join (Str.ofString "") (y :: r)).cps.toList = _
      rw [Str.cps_append, Str.cps_append, Array.toList_append, Array.toList_append]
    have z : (Str.ofString "").cps.toList = [] := by decide +kernel
    rw [e, z, List.append_nil] at h
    rcases List.mem_append.mp h with h | h
    · exact ⟨x, List.mem_cons_self, h⟩
    · obtain ⟨u, hu, hc⟩ := join_empty_mem (y :: r) c h
      exact ⟨u, List.mem_cons_of_mem _ hu, hc⟩
section
variable {prog : Program} {w : World} {A : Around} {E : Value → Shared → Prop} {s : Shared} {t : Tok} {Q : Value → Shared → Prop}
theorem join_text {D : Addr} {ys : List Value} {ns : List Int} (hl : s.heap.IsList D ys.toArray)
    (hc : CarriedAll ys (List.map (fun a => PyData.str (Txt.item (Str.ofString "aAbÉ \t\n-1") (Int.fmod a 9))) (List.filter (fun _ => true) ns))) (hn : ns.length ≤ 63)
    (h : ∀ x t' k, TextOk x → Q (.str x t') { s with toks := k }) :
    wpAny (model prog w) A (call (.builtin "str.join") [.str (Str.ofString "") t, .ref D]) Q E s := by
  have hf : (List.filter (fun _ : Int => true) ns).length ≤ 63 := Nat.le_trans (List.length_filter_le _ _) hn
  refine KT.join_1 (g := fun a => Txt.item (Str.ofString "aAbÉ \t\n-1") (Int.fmod a 9)) hl hc (fun a _ => ?_) (Nat.le_trans hf (by decide)) fun t' k hlen => h _ t' k ⟨?_, ?_⟩
  · obtain ⟨c, _, e⟩ := item_ok a
    rw [e]; rfl
  · intro c hm
    have hm' : c ∈ (Str.join (Str.ofString "") ((List.filter (fun _ : Int => true) ns).map fun a => Txt.item (Str.ofString "aAbÉ \t\n-1") (Int.fmod a 9))).cps.toList := by
      rw [← StrLaws.glued_eq_join]; exact hm
    obtain ⟨u, hu, hcu⟩ := join_empty_mem _ c hm'
    obtain ⟨a, _, rfl⟩ := List.mem_map.mp hu
    obtain ⟨d, hd, e⟩ := item_ok a
    rw [e] at hcu
    have : c = d := by simpa using hcu
    rw [this]; exact hd
  · rw [hlen]; exact hf
theorem execs_cons_pos {env : Env} {st : Stmt} {rest : List Stmt} {Q : Flow → Shared → Prop} (hp : 1 ≤ s.toks)
    (h : wpAny (model prog w) A (exec st env) (fun f s' => 1 ≤ s'.toks → match f with | .next => wpAny (model prog w) A (execs rest env) Q E s' | f => Q f s') (fun e s' => 1 ≤ s'.toks → E e s') s) :
    wpAny (model prog w) A (execs (st :: rest) env) Q E s := by
  refine wpAny_execs_cons ?_
  exact wpAny_with_toks hp h
theorem replace_pos {x y z : Str} {u v : Tok} (hp : 1 ≤ s.toks) (hu : u ≠ 0) (hv : v ≠ 0) (huv : u ≠ v) (hyz : (y == z) = false) (hx : x.length ≤ 1048576) (hz : z.length ≤ 14)
    (hq : ∀ t' k, 1 ≤ k → Q (.str (Txt.replace x y z) t') { s with toks := k }) : wpAny (model prog w) A (call (.builtin "str.replace") [.str x t, .str y u, .str z v]) Q E s :=
  wpAny_with_toks hp (SC.replaceW (Q := fun v s' => 1 ≤ s'.toks → Q v s') hu hv huv hyz hx hz fun t' k hk => hq t' k hk) 
end
end Mine
end BasePart
section PlainPart
open PySem PySem.Builtin PySem.Builtin.Str
namespace Mine
/-! lists of signs -/
def splitP (p : Nat → Bool) : List Nat → List (List Nat)
  | [] => [[]]
  | k :: r => if p k = true then [] :: splitP p r else match splitP p r with
    | [] => [[k]]
    | q :: qs => (k :: q) :: qs
def joinL (sep : List Nat) : List (List Nat) → List Nat
  | [] => []
  | [x] => x
  | x :: y :: r => x ++ sep ++ joinL sep (y :: r)
def wordsL (p : Nat → Bool) (l : List Nat) : List (List Nat) := (splitP p l).filter (fun q => !q.isEmpty)
theorem splitP_ne (p : Nat → Bool) : ∀ l, ∃ q qs, splitP p l = q :: qs
  | [] => ⟨[], [], rfl⟩
  | k :: r => by
    obtain ⟨q, qs, e⟩ := splitP_ne p r
    unfold splitP
    rw [e]
    split
    · exact ⟨_, _, rfl⟩
    · exact ⟨_, _, rfl⟩
theorem splitP_free (p : Nat → Bool) : ∀ l, (∀ k ∈ l, p k = false) → splitP p l = [l]
  | [], _ => rfl
  | k :: r, h => by
    unfold splitP
    rw [splitP_free p r fun a ha => h a (List.mem_cons_of_mem _ ha), if_neg (by rw [h k List.mem_cons_self]; exact Bool.false_ne_true)]
theorem splitP_cat (p : Nat → Bool) (c : Nat) (hc : p c = true) (rest : List Nat) : ∀ l, (∀ k ∈ l, p k = false) → splitP p (l ++ c :: rest) = l :: splitP p rest
  | [], _ => by
    show splitP p (c :: rest) = _
    rw [splitP, if_pos hc]
  | k :: r, h => by
    show splitP p (k :: (r ++ c :: rest)) = _
    rw [splitP, splitP_cat p c hc rest r fun a ha => h a (List.mem_cons_of_mem _ ha), if_neg (by rw [h k List.mem_cons_self]; exact Bool.false_ne_true)]
theorem split_join (p : Nat → Bool) (c : Nat) (hc : p c = true) : ∀ parts : List (List Nat), parts ≠ [] → (∀ q ∈ parts, ∀ k ∈ q, p k = false) → splitP p (joinL [c] parts) = parts
  | [], h, _ => absurd rfl h
  | [x], _, h => splitP_free p x (h x List.mem_cons_self)
  | x :: y :: r, _, h => by
    show splitP p (x ++ [c] ++ joinL [c] (y :: r)) = _
    rw [List.append_assoc]
    show splitP p (x ++ c :: joinL [c] (y :: r)) = _
    rw [splitP_cat p c hc _ x (h x List.mem_cons_self), split_join p c hc (y :: r) (by simp) fun q hq => h q (List.mem_cons_of_mem _ hq)]
theorem splitP_mem (p : Nat → Bool) : ∀ l, ∀ q ∈ splitP p l, ∀ k ∈ q, k ∈ l ∧ p k = false
  | [], q, hq, k, hk => by
    rw [List.mem_singleton.mp hq] at hk; cases hk
  | a :: r, q, hq, k, hk => by
    obtain ⟨q0, qs, e⟩ := splitP_ne p r
    unfold splitP at hq
    rw [e] at hq
    split at hq
    · rcases List.mem_cons.mp hq with rfl | hq
      · cases hk
      · have := splitP_mem p r q (by rw [e]; exact hq) k hk
        exact ⟨List.mem_cons_of_mem _ this.1, this.2⟩
    · rename_i hp
      rcases List.mem_cons.mp hq with rfl | hq
      · rcases List.mem_cons.mp hk with rfl | hk
        · exact ⟨List.mem_cons_self, by simpa using hp⟩
        · have := splitP_mem p r q0 (by rw [e]; exact List.mem_cons_self) k hk
          exact ⟨List.mem_cons_of_mem _ this.1, this.2⟩
      · have := splitP_mem p r q (by rw [e]; exact List.mem_cons_of_mem _ hq) k hk
        exact ⟨List.mem_cons_of_mem _ this.1, this.2⟩
theorem splitP_map (p q : Nat → Bool) (f : Nat → Nat) : ∀ l : List Nat, (∀ k ∈ l, q k = p (f k)) → (∀ k ∈ l, q k = false → f k = k) → splitP p (l.map f) = splitP q l
  | [], _, _ => rfl
  | a :: r, h1, h2 => by
    rw [List.map_cons, splitP, splitP, splitP_map p q f r (fun k hk => h1 k (List.mem_cons_of_mem _ hk)) fun k hk => h2 k (List.mem_cons_of_mem _ hk), ← h1 a List.mem_cons_self]
    cases hq : q a with
    | true => rfl
    | false => rw [h2 a List.mem_cons_self hq]
theorem join_split_map (p : Nat → Bool) (f : Nat → Nat) (d : Nat) : ∀ l : List Nat, (∀ k ∈ l, p k = true → f k = d) → (∀ k ∈ l, p k = false → f k = k) → joinL [d] (splitP p l) = l.map f
  | [], _, _ => rfl
  | a :: r, h1, h2 => by
    have ih := join_split_map p f d r (fun k hk => h1 k (List.mem_cons_of_mem _ hk)) fun k hk => h2 k (List.mem_cons_of_mem _ hk)
    obtain ⟨q, qs, e⟩ := splitP_ne p r
    rw [splitP]
    rw [e] at ih ⊢
    cases hp : p a with
    | true =>
      rw [if_pos rfl, List.map_cons, h1 a List.mem_cons_self hp, ← ih]
      rfl
    | false =>
      rw [if_neg Bool.false_ne_true, List.map_cons, h2 a List.mem_cons_self hp, ← ih]
      cases qs with
      | nil => rfl
      | cons y ys => rfl
/-! texts as lists -/
theorem str_ext {a b : Str} (h : a.cps.toList = b.cps.toList) : a = b := Str.ext' (Array.toList_inj.mp h)
abbrev sg (x : Str) : List Nat := x.cps.toList
theorem sg_join (sep : Str) : ∀ l : List Str, sg (Str.join sep l) = joinL (sg sep) (l.map sg)
  | [] => rfl
  | [x] => rfl
  | x :: y :: r => by
    show sg (x ++ sep ++ Str.join sep (y :: r)) = _
    unfold sg
    rw [Str.cps_append, Str.cps_append, Array.toList_append, Array.toList_append]
    show _ ++ _ ++ sg (Str.join sep (y :: r)) = _
    rw [sg_join sep (y :: r)]
    rfl
theorem sg_txtjoin (sep : Str) (l : List Str) : sg (Txt.join sep l) = joinL (sg sep) (l.map sg) := by
  rw [← sg_join, ← StrLaws.glued_eq_join]; rfl
theorem split_eq (x : Str) (c : Nat) : (Txt.split x ⟨#[c]⟩).map sg = splitP (· == c) (sg x) := by
  have h1 := StrLaws.join_split x ⟨#[c]⟩
  have h2 := StrLaws.split_free x c
  have h3 := PyProof.Rows.split_pos x ⟨#[c]⟩
  have e : sg x = joinL [c] ((Txt.split x ⟨#[c]⟩).map sg) := by
    conv => lhs; rw [← h1]
    rw [sg_join]
  rw [e, split_join (· == c) c (by simp)]
  · intro h
    rw [List.map_eq_nil_iff] at h
    rw [h] at h3
    exact absurd h3 (by decide)
  · intro q hq k hk
    obtain ⟨p, hp, rfl⟩ := List.mem_map.mp hq
    have : k ≠ c := fun he => h2 p hp (he ▸ hk)
    simpa using this
theorem replace_eq (x : Str) (c d : Nat) : sg (Txt.replace x ⟨#[c]⟩ ⟨#[d]⟩) = (sg x).map fun k => if k = c then d else k := by
  rw [StrLaws.replace_one, sg_join, split_eq]
  exact join_split_map (· == c) _ d (sg x) (fun k _ h => if_pos (by simpa using h)) fun k _ h => if_neg (by simpa using h)
/-! whitespace words -/
theorem wordsL_nil (p : Nat → Bool) : wordsL p [] = [] := rfl
theorem wordsL_space (p : Nat → Bool) {c : Nat} (hc : p c = true) (r : List Nat) : wordsL p (c :: r) = wordsL p r := by
  unfold wordsL
  rw [splitP, if_pos hc]; rfl
theorem wordsL_seg (p : Nat → Bool) {c : Nat} (hc : p c = true) (r l : List Nat) (hl : ∀ k ∈ l, p k = false) (hne : l ≠ []) : wordsL p (l ++ c :: r) = l :: wordsL p r := by
  unfold wordsL
  rw [splitP_cat p c hc r l hl]
  cases l with
  | nil => exact absurd rfl hne
  | cons a t => rfl
theorem wordsL_last (p : Nat → Bool) (l : List Nat) (hl : ∀ k ∈ l, p k = false) (hne : l ≠ []) : wordsL p l = [l] := by
  unfold wordsL
  rw [splitP_free p l hl]
  cases l with
  | nil => exact absurd rfl hne
  | cons a t => rfl
abbrev sub (l : List Nat) (p : Nat × Nat) : List Nat := (l.drop p.1).take (p.2 - p.1)
def SwInv (l : List Nat) (cur : Nat) (res : List (List Nat)) (st : StrLaws.SwSt) : Prop :=
  st.fst = none ∧
  match st.snd.snd with
  | some b => b < cur ∧ st.snd.fst.size + 1 ≤ cur ∧ (∀ k ∈ sub l (b, cur), Unicode.isSpace k = false) ∧ res = st.snd.fst.toList.map (sub l) ++ wordsL Unicode.isSpace (l.drop b)
  | none => st.snd.fst.size ≤ cur ∧ res = st.snd.fst.toList.map (sub l) ++ wordsL Unicode.isSpace (l.drop cur)
theorem sub_snoc {l : List Nat} {b cur : Nat} (hb : b ≤ cur) (hc : cur < l.length) : sub l (b, cur + 1) = sub l (b, cur) ++ [l[cur]] := by
  show (l.drop b).take (cur + 1 - b) = (l.drop b).take (cur - b) ++ [l[cur]]
  rw [show cur + 1 - b = (cur - b) + 1 by omega, List.take_add_one]
  congr 1
  rw [List.getElem?_drop, show b + (cur - b) = cur by omega, List.getElem?_eq_getElem hc]
  rfl
theorem drop_seg {l : List Nat} {b cur : Nat} (hb : b ≤ cur) (hc : cur < l.length) : l.drop b = sub l (b, cur) ++ l[cur] :: l.drop (cur + 1) := by
  show l.drop b = (l.drop b).take (cur - b) ++ l[cur] :: l.drop (cur + 1)
  have e : l[cur] :: l.drop (cur + 1) = (l.drop b).drop (cur - b) := by
    rw [List.drop_drop, show b + (cur - b) = cur by omega, ← List.drop_eq_getElem_cons hc]
  rw [e, List.take_append_drop]
theorem sw_inv (x : Str) (limit : Nat) (hl : x.length < limit) (res : List (List Nat)) : ∀ (m cur : Nat) (st : StrLaws.SwSt), cur + m = x.length → SwInv (sg x) cur res st →
    SwInv (sg x) x.length res (forIn (List.range' cur m) st (StrLaws.swBody x limit)).run
  | 0, cur, st, e, h => by
    have : cur = x.length := by omega
    subst this; exact h
  | m + 1, cur, (r, words, start), e, h => by
    rw [List.range'_succ, List.forIn_cons]
    have hlen : (sg x).length = x.length := by simp [Str.length]
    have hcur : cur < (sg x).length := by omega
    have hget : x.cps.getD cur 0 = (sg x)[cur] := by
      have : cur < x.cps.size := by simpa [Str.length] using (show cur < x.length by omega)
      simp [Array.getD, this]
    obtain ⟨h1, h2⟩ := h
    have h1 : r = none := h1
    subst h1
    have hsz : ¬ ((words.size == limit) = true) := by
      cases start with
      | none => obtain ⟨a, _⟩ := h2; have a : words.size ≤ cur := a; rw [beq_iff_eq]; omega
      | some b => obtain ⟨_, a, _⟩ := h2; have a : words.size + 1 ≤ cur := a; rw [beq_iff_eq]; omega
    unfold StrLaws.swBody
    rw [if_neg hsz, hget]
    cases start with
    | none =>
      obtain ⟨a, hr⟩ := h2
      cases hs : Unicode.isSpace (sg x)[cur] with
      | true =>
        refine sw_inv x limit hl res m (cur + 1) (none, words, none) (by omega) ⟨rfl, ?_⟩
        refine ⟨Nat.le_succ_of_le a, hr.trans ?_⟩
        show _ ++ wordsL _ ((sg x).drop cur) = _
        rw [List.drop_eq_getElem_cons hcur, wordsL_space _ hs]
      | false =>
        refine sw_inv x limit hl res m (cur + 1) (none, words, some cur) (by omega) ⟨rfl, ?_⟩
        refine ⟨Nat.lt_succ_self _, Nat.succ_le_succ a, ?_, hr⟩
        rw [sub_snoc (Nat.le_refl _) hcur]
        intro k hk
        have : k = (sg x)[cur] := by simpa [sub] using hk
        rw [this]; exact hs
    | some b =>
      obtain ⟨hb, a, hsp, hr⟩ := h2
      cases hs : Unicode.isSpace (sg x)[cur] with
      | true =>
        refine sw_inv x limit hl res m (cur + 1) (none, words.push (b, cur), none) (by omega) ⟨rfl, ?_⟩
        refine ⟨by show (words.push (b, cur)).size ≤ _; rw [Array.size_push]; exact Nat.le_succ_of_le a, hr.trans ?_⟩
        show _ = List.map _ (words.push (b, cur)).toList ++ _
        rw [Array.toList_push, List.map_append, List.append_assoc, List.map_singleton]
        congr 1
        rw [drop_seg (Nat.le_of_lt hb) hcur, wordsL_seg _ hs _ _ hsp]
        · rfl
        · intro he
          have : (sub (sg x) (b, cur)).length = cur - b := by
            show (((sg x).drop b).take (cur - b)).length = cur - b
            rw [List.length_take, List.length_drop]; omega
          rw [he] at this
          simp at this; omega
      | false =>
        refine sw_inv x limit hl res m (cur + 1) (none, words, some b) (by omega) ⟨rfl, ?_⟩
        refine ⟨Nat.lt_succ_of_lt hb, Nat.le_succ_of_le a, ?_, hr⟩
        rw [sub_snoc (Nat.le_of_lt hb) hcur]
        intro k hk
        rcases List.mem_append.mp hk with hk | hk
        · exact hsp k hk
        · rw [List.mem_singleton.mp hk]; exact hs
theorem spaceWords_eq (x : Str) : (spaceWords x (x.length + 1)).map (sub (sg x)) = wordsL Unicode.isSpace (sg x) := by
  rw [StrLaws.sw_eq]
  have hlen : (sg x).length = x.length := by simp [Str.length]
  have h := sw_inv x (x.length + 1) (Nat.lt_succ_self _) (wordsL Unicode.isSpace (sg x)) x.length 0 (none, #[], none) (by omega) ⟨rfl, Nat.le_refl _, rfl⟩
  revert h
  generalize (forIn (List.range' 0 x.length) ((none, #[], none) : StrLaws.SwSt) (StrLaws.swBody x (x.length + 1))).run = st
  obtain ⟨r, words, start⟩ := st
  rintro ⟨h1, h2⟩
  have h1 : r = none := h1
  subst h1
  unfold StrLaws.swEnd
  cases start with
  | none =>
    obtain ⟨_, hr⟩ := h2
    have hr : wordsL Unicode.isSpace (sg x) = words.toList.map (sub (sg x)) ++ wordsL Unicode.isSpace ((sg x).drop x.length) := hr
    rw [hr, ← hlen, List.drop_length, wordsL_nil, List.append_nil]
  | some b =>
    obtain ⟨hb, _, hsp, hr⟩ := h2
    have hr : wordsL Unicode.isSpace (sg x) = words.toList.map (sub (sg x)) ++ wordsL Unicode.isSpace ((sg x).drop b) := hr
    have hsp : ∀ k ∈ sub (sg x) (b, x.length), Unicode.isSpace k = false := hsp
    have e : sub (sg x) (b, x.length) = (sg x).drop b := by
      show ((sg x).drop b).take (x.length - b) = _
      rw [List.take_of_length_le (by rw [List.length_drop]; omega)]
    rw [e] at hsp
    show (words.push (b, x.length)).toList.map _ = _
    rw [hr, Array.toList_push, List.map_append, List.map_singleton, e, wordsL_last _ _ hsp]
    intro he
    have : ((sg x).drop b).length = x.length - b := by rw [List.length_drop]; omega
    rw [he] at this
    simp at this; omega
theorem words_eq (x : Str) : (Txt.words x).map sg = wordsL Unicode.isSpace (sg x) := by
  have hw : (wordsOf x).map sg = wordsL Unicode.isSpace (sg x) := by
    rw [← spaceWords_eq]
    unfold wordsOf
    rw [List.map_map]
    refine List.map_congr_left fun p _ => ?_
    show sg (strSub x p.1 p.2) = _
    exact StrLaws.strSub_toList x p.1 p.2
  unfold Txt.words
  split
  · rename_i h
    have h' : spaceWords x (x.length + 1) = [(0, x.length)] := by simpa using h
    rw [← spaceWords_eq, h']
    show [sg x] = [((sg x).drop 0).take (x.length - 0)]
    rw [List.drop_zero, Nat.sub_zero, List.take_of_length_le (by simp [Str.length])]
  · exact hw
/-! capitalize -/
def lowS (c : Nat) : Nat := if c = 65 then 97 else if c = 66 then 98 else if c = 201 then 233 else c
def upS (c : Nat) : Nat := if c = 97 then 65 else if c = 98 then 66 else if c = 233 then 201 else c
def lwL : List Nat → List Nat
  | [] => []
  | c :: r => upS (lowS c) :: r.map lowS
def lw (x : Str) : Str := ⟨(lwL (sg x)).toArray⟩
def alph2 : List Nat := [97, 65, 98, 66, 201, 233, 32, 9, 10, 45, 49]
theorem title2 : ∀ c ∈ alph2, Unicode.titleOf c = [upS (lowS c)] := by decide +kernel
theorem lower2 : ∀ c ∈ alph2, Unicode.lowerOf c = [lowS c] ∧ (c == 0x3A3) = false := by decide +kernel
theorem flatten_mapIdx {g : Nat → Nat → List Nat} {h : Nat → Nat → Nat} : ∀ (l : List Nat), (∀ i c, l[i]? = some c → g i c = [h i c]) → (l.mapIdx g).flatten = l.mapIdx h
  | [], _ => rfl
  | a :: r, hg => by
    rw [List.mapIdx_cons, List.mapIdx_cons, List.flatten_cons, hg 0 a rfl]
    rw [flatten_mapIdx (g := fun i => g (i + 1)) (h := fun i => h (i + 1)) r fun i c e => hg (i + 1) c (by simpa using e)]
    rfl
theorem toList_mapIdx (g : Nat → Nat → List Nat) (l : List Nat) : (l.mapIdx fun i c => (g i c).toArray).map Array.toList = l.mapIdx g := by
  apply List.ext_getElem?
  intro i
  simp only [List.getElem?_map, List.getElem?_mapIdx]
  cases l[i]? <;> rfl
theorem mapIdx_const (f : Nat → Nat) (l : List Nat) : (l.mapIdx fun _ c => f c) = l.map f := by
  apply List.ext_getElem?
  intro i
  simp only [List.getElem?_map, List.getElem?_mapIdx]
theorem cap_eq (x : Str) (hx : ∀ c ∈ sg x, c ∈ alph2) : Txt.capitalize x = lw x := by
  unfold Txt.capitalize
  split
  · rename_i h
    have : sg x = [] := by
      have h' : x.cps.size = 0 := by simpa [Str.length] using h
      exact List.eq_nil_of_length_eq_zero (by simpa using h')
    apply str_ext
    show sg x = lwL (sg x)
    rw [this]; rfl
  · apply str_ext
    show ((x.cps.mapIdx fun i c => (if (i == 0) = true then Unicode.titleOf c else Unicode.lowerAt x.cps i).toArray).flatten).toList = lwL (sg x)
    have e1 : ((x.cps.mapIdx fun i c => (if (i == 0) = true then Unicode.titleOf c else Unicode.lowerAt x.cps i).toArray).flatten).toList =
        ((sg x).mapIdx fun i c => if (i == 0) = true then Unicode.titleOf c else Unicode.lowerAt x.cps i).flatten := by
      rw [Array.toList_flatten, Array.toList_mapIdx, toList_mapIdx fun i c => if (i == 0) = true then Unicode.titleOf c else Unicode.lowerAt x.cps i]
    rw [e1, flatten_mapIdx (h := fun i c => if i = 0 then upS (lowS c) else lowS c) (sg x)]
    · generalize sg x = l
      cases l with
      | nil => rfl
      | cons a r =>
        rw [List.mapIdx_cons]
        show _ :: _ = _ :: _
        congr 1
        exact mapIdx_const lowS r
    · intro i c hc
      have hm : c ∈ alph2 := hx c (List.mem_of_getElem? hc)
      cases i with
      | zero => exact title2 c hm
      | succ i =>
        have hc' : x.cps[i + 1]? = some c := by simpa using hc
        show Unicode.lowerAt x.cps (i + 1) = [lowS c]
        unfold Unicode.lowerAt
        rw [hc']
        show (if (c == 0x3A3 && _) = true then _ else _) = _
        rw [(lower2 c hm).2, Bool.false_and, if_neg Bool.false_ne_true, (lower2 c hm).1]
end Mine
end PlainPart
section LoopPart
open PySem PySem.W PyProof.Rows PySem.Calls
namespace Mine
/-- the first i signs of the word as the law writes it -/
def lwT (word : Str) (i : Nat) : Str := ⟨((lwL (sg word)).take i).toArray⟩
theorem lwL_length : ∀ l : List Nat, (lwL l).length = l.length
  | [] => rfl
  | c :: r => by simp [lwL]
theorem lwT_zero (word : Str) : lwT word 0 = Str.ofString "" := by
  unfold lwT
  rw [List.take_zero]
  decide +kernel
theorem lwT_all (word : Str) {n : Nat} (h : n = word.length) : lwT word n = lw word := by
  unfold lwT lw
  rw [List.take_of_length_le]
  rw [lwL_length, h]
  simp [Str.length]
theorem lwL_get : ∀ (l : List Nat) (i c : Nat), l[i]? = some c → (lwL l)[i]? = some (if i = 0 then upS (lowS c) else lowS c)
  | [], _, _, h => by cases h
  | a :: r, 0, c, h => by
    have : a = c := by simpa using h
    subst this; rfl
  | a :: r, i + 1, c, h => by
    have h' : r[i]? = some c := by simpa using h
    show (r.map lowS)[i]? = _
    rw [List.getElem?_map, h']; rfl
theorem lwT_succ {word : Str} {i c : Nat} (h : (sg word)[i]? = some c) : lwT word (i + 1) = lwT word i ++ ⟨#[if i = 0 then upS (lowS c) else lowS c]⟩ := by
  apply str_ext
  rw [Str.cps_append, Array.toList_append]
  show (lwL (sg word)).take (i + 1) = (lwL (sg word)).take i ++ [_]
  rw [List.take_add_one, lwL_get _ _ _ h]
  rfl
theorem item_at {word : Str} {i c : Nat} (h : (sg word)[i]? = some c) : Txt.item word (i : Int) = ⟨#[c]⟩ := by
  have hc : word.cps[(i : Int).toNat]? = some c := by simpa using h
  unfold Txt.item Txt.charAt
  rw [StrLaws.at_nonneg (Int.natCast_nonneg i) hc]
  rfl
/-- what one turn of the law's loop finds and adds -/
def TurnIs (i : Nat) (a b : Str) : Prop :=
  (i = 0 ∧ a = Str.ofString "a" ∧ b = Str.ofString "A") ∨ (i = 0 ∧ a = Str.ofString "A" ∧ b = Str.ofString "A") ∨ (i = 0 ∧ a = Str.ofString "b" ∧ b = Str.ofString "B") ∨ (i = 0 ∧ a = Str.ofString "É" ∧ b = Str.ofString "É") ∨
  (i = 0 ∧ (Txt.contains (Str.ofString "ABÉ") a = false ∧ Txt.contains (Str.ofString "abé") a = false) ∧ b = a) ∨
  (1 ≤ i ∧ a = Str.ofString "a" ∧ b = Str.ofString "a") ∨ (1 ≤ i ∧ a = Str.ofString "A" ∧ b = Str.ofString "a") ∨ (1 ≤ i ∧ a = Str.ofString "b" ∧ b = Str.ofString "b") ∨ (1 ≤ i ∧ a = Str.ofString "É" ∧ b = Str.ofString "é") ∨
  (1 ≤ i ∧ (Txt.contains (Str.ofString "ABÉ") a = false ∧ Txt.contains (Str.ofString "abé") a = false) ∧ b = a)
theorem turn_is {word : Str} (hw : TextOk word) {i : Nat} (hi : i < word.length) : ∃ a b, TurnIs i a b ∧ Txt.item word (i : Int) = a ∧ lwT word i ++ b = lwT word (i + 1) ∧ b.length ≤ 1 := by
  have hi' : i < (sg word).length := by simpa [Str.length] using hi
  have hg : (sg word)[i]? = some (sg word)[i] := List.getElem?_eq_getElem hi'
  have hc : (sg word)[i] ∈ alph := hw.signs _ (List.getElem_mem hi')
  generalize (sg word)[i] = c at hg hc
  refine ⟨⟨#[c]⟩, ⟨#[if i = 0 then upS (lowS c) else lowS c]⟩, ?_, item_at hg, (lwT_succ hg).symm, Nat.le_refl _⟩
  have h97 : (⟨#[97]⟩ : Str) = Str.ofString "a" := by decide +kernel
  have h65 : (⟨#[65]⟩ : Str) = Str.ofString "A" := by decide +kernel
  have h98 : (⟨#[98]⟩ : Str) = Str.ofString "b" := by decide +kernel
  have h66 : (⟨#[66]⟩ : Str) = Str.ofString "B" := by decide +kernel
  have h201 : (⟨#[201]⟩ : Str) = Str.ofString "É" := by decide +kernel
  have h233 : (⟨#[233]⟩ : Str) = Str.ofString "é" := by decide +kernel
  have hin : ∀ (g : Str), Txt.contains g ⟨#[c]⟩ = decide (c ∈ g.cps.toList) := fun g => StrLaws.found_one g c
  have hG : (Str.ofString "ABÉ").cps.toList = [65, 66, 201] := by decide +kernel
  have hS : (Str.ofString "abé").cps.toList = [97, 98, 233] := by decide +kernel
  unfold TurnIs
  rw [hin, hin, hG, hS, ← h97, ← h65, ← h98, ← h66, ← h201, ← h233]
  simp only [alph, List.mem_cons, List.not_mem_nil, or_false] at hc
  rcases Nat.eq_zero_or_pos i with rfl | hp
  · rcases hc with rfl | rfl | rfl | rfl | rfl | rfl | rfl | rfl | rfl <;> simp [upS, lowS]
  · have hz : i ≠ 0 := Nat.ne_of_gt hp
    rcases hc with rfl | rfl | rfl | rfl | rfl | rfl | rfl | rfl | rfl <;> simp [lowS, hz] <;> omega
section
variable {prog : Program} {w : World} {A : Around} {E : Value → Shared → Prop} {s : Shared} {env : Env} {h₀ : Heap} {body : List Stmt} {Q : Flow → Shared → Prop}
theorem item_word {prog : Program} {w : World} {A : Around} {E : Value → Shared → Prop} {s : Shared} {value slice : Expr} {x v : Str} {t u : Tok} {i : Nat} {Q : Value → Shared → Prop} (hx : TextOk x) (hi : i < x.length) (e : Txt.item x (i : Int) = v)
    (h : Q (.str v s.toks) { s with toks := s.toks + 1 })
    (hs : subscripted slice false (.str x t) (.int (i : Int) u) = operate [.str x t, .int (i : Int) u] (getItem (.str x t) (.int (i : Int) u)) := by with_unfolding_all rfl)
    (ht : ∀ r, letTemporaryGo value (.str x t) r = pure () := by intro _; with_unfolding_all rfl) :
    wpAny (model prog w) A (subscriptTail value slice (.str x t) (.int (i : Int) u)) Q E s := by
  have hl := hx.len
  refine tail_of_ItemOn (SBL.item (by omega) (by omega) (by omega) fun _ => ?_) hs ht
  rw [e]; exact h
def LwJ (news : List (Addr × Obj)) (m₀ : Str → Option Value) (word : Str) (i : Nat) (m' : Str → Option Value) (nx : List (Addr × Obj)) : Prop :=
  nx = news ∧ (∃ z t, m' (Str.ofString "found") = some (.str z t) ∧ z = lwT word i) ∧ ∀ z, z ≠ Str.ofString "k" → z ≠ Str.ofString "found" → z ≠ Str.ofString "sign" → m' z = m₀ z
theorem loop_word {word : Str} {r : Addr} {b₀ : Int} {tr ur vr t₀ : Tok} {m₀ : Str → Option Value} {news : List (Addr × Obj)} (hb : b₀ = (word.length : Int)) (hw : TextOk word)
    (hh : A.handled = none) (hr : IsRange s.heap r 0 b₀ 1 tr ur vr) (F : Fr h₀ env.locals s.heap m₀) (N : News h₀ env.locals s.heap news)
    (hk : m₀ (Str.ofString "found") = some (.str (Str.ofString "") t₀))
    (turn : ∀ (i : Nat) a b tk' tf (u : Str → Option Value) h tk own, i < word.length → TurnIs i a b → Txt.item word (i : Int) = a → lwT word i ++ b = lwT word (i + 1) → b.length ≤ 1 → (lwT word i).length ≤ 63 → OwnOff own (news.map (·.1)) →
      Fr h₀ env.locals h (fun y => if y = Str.ofString "k" then some (.int (i : Int) tk') else if y = Str.ofString "found" then some (.str (lwT word i) tf) else if y = Str.ofString "sign" then u y else m₀ y) → News h₀ env.locals h (news ++ own) →
      wpAny (model prog w) A (execs body env) (InvPostN h₀ env.locals (LwJ news m₀ word (i + 1)) own (news.map (·.1)) { s with heap := h, toks := tk } Q) E { s with heap := h, toks := tk })
    (done : ∀ (u : Str → Option Value) t h tk, Fr h₀ env.locals h (fun y => if y = Str.ofString "k" then u y else if y = Str.ofString "found" then some (.str (lw word) t) else if y = Str.ofString "sign" then u y else m₀ y) → News h₀ env.locals h news → Q .next { s with heap := h, toks := tk }) :
    wpAny (model prog w) A (pyIter (.ref r)) (fun it s₂ => LoopAtV prog w A h₀ env (Str.ofString "k") body Q E it s₂) E s := by
  subst hb
  have hl := hw.len
  have hmap : ∀ (c : Str × Tok) (u : Str → Option Value) (k : Option Value), (fun y => if y = Str.ofString "k" then k else kstB (fun z => if [Str.ofString "sign"].contains z then u z else m₀ z) [(Str.ofString "found", Value.str c.1 c.2)] y) =
      fun y => if y = Str.ofString "k" then k else if y = Str.ofString "found" then some (.str c.1 c.2) else if y = Str.ofString "sign" then u y else m₀ y := fun c u k => by
    funext y
    simp [kstB]
  refine kst_range (n := word.length) (σ := Str × Tok) (fun _ => news) (fun c : Str × Tok => [(Str.ofString "found", Value.str c.1 c.2)]) (fun _ => True) [Str.ofString "sign"] (fun pre (c : Str × Tok) => c.1 = lwT word pre.length) (Str.ofString "", t₀)
    hh hr (small_one (by omega) (by omega) (by omega) (by omega)) (rangeSize_nat _ _) F N trivial (fun p hp => by rw [List.mem_singleton.mp hp]; exact hk) (lwT_zero word).symm ?_ ?_
  · intro c pre k t u h tk own hk' hlt hoff _ hP F' N'
    have hk'' : k = ((pre.length : Nat) : Int) := by omega
    subst hk''
    obtain ⟨a, b, ht, hit, hnx, hb1⟩ := turn_is hw hlt
    have F'' : Fr h₀ env.locals h (fun y => if y = Str.ofString "k" then some (.int (pre.length : Int) t) else if y = Str.ofString "found" then some (.str c.1 c.2) else if y = Str.ofString "sign" then u y else m₀ y) := by
      rw [← hmap c u (some (.int (pre.length : Int) t))]
      exact F'
    have hP : c.1 = lwT word pre.length := hP
    rw [hP] at F''
    refine wpAny_mono (turn pre.length a b t c.2 u h tk own hlt ht hit hnx hb1 ?_ hoff F'' N') (fun f s₂ hq => ?_) fun _ _ e => e
    · unfold lwT
      show ((lwL (sg word)).take pre.length).toArray.size ≤ 63
      rw [List.size_toArray, List.length_take, lwL_length]
      omega
    have conv : InvEndN h₀ env.locals (LwJ news m₀ word (pre.length + 1)) own (news.map (·.1)) { s with heap := h, toks := tk } s₂ →
        InvEndN h₀ env.locals (KstS (fun _ => news) (fun c : Str × Tok => [(Str.ofString "found", Value.str c.1 c.2)]) (fun _ => True) (Str.ofString "k") [Str.ofString "sign"] m₀ (fun pre (c : Str × Tok) => c.1 = lwT word pre.length) (pre ++ [(pre.length : Int)])) own (news.map (·.1)) { s with heap := h, toks := tk } s₂ := by
      rintro ⟨h', tk', m', news', nx, e, F₂, N₂, hn, ho, ha, rfl, ⟨z, t', hz, hz'⟩, hrest⟩
      refine ⟨h', tk', m', news', nx, e, F₂, N₂, hn, ho, ha, (z, t'), rfl, trivial, fun p hp => by rw [List.mem_singleton.mp hp]; exact hz, fun y h1 h2 h3 => hrest y h1 (h2 _ (List.mem_singleton.mpr rfl)) ?_, ?_⟩
      · intro e; rw [e] at h3; simp at h3
      · show z = lwT word (pre ++ [(pre.length : Int)]).length
        rw [hz', List.length_append, List.length_singleton]
    cases f with
    | ret v => exact hq
    | brk => exact hq
    | next => exact conv hq
    | cont => exact conv hq
  · intro c u h tk _ hP F' N'
    have hP : c.1 = lwT word (rangeKs 0 word.length).length := hP
    rw [rangeKs_length, lwT_all word rfl] at hP
    refine done u c.2 h tk ?_ N'
    rw [← hP]
    have e := hmap c u none
    have F'' : Fr h₀ env.locals h (fun y => if y = Str.ofString "k" then u y else if y = Str.ofString "found" then some (.str c.1 c.2) else if y = Str.ofString "sign" then u y else m₀ y) := by
      have e2 : (fun y => if y = Str.ofString "k" then u y else if y = Str.ofString "found" then some (.str c.1 c.2) else if y = Str.ofString "sign" then u y else m₀ y) = fun y => if y = Str.ofString "k" then u y else kstB (fun z => if [Str.ofString "sign"].contains z then u z else m₀ z) [(Str.ofString "found", Value.str c.1 c.2)] y := by
        funext y
        simp [kstB]
      rw [e2]; exact F'
    exact F''
end
end Mine
end LoopPart
section MapJoinPart
open PySem PySem.Builtin PySem.Builtin.Str PyProof.Rows
namespace Mine
open Sem (wp)
theorem owner_map : Manifest.owners.lookup (String.ofList ['p', 'a', 'm'].reverse) = some Manifest.sig_map := by kernel_rfl
theorem slot_map_init : Slot "map" "__init__" "object.__init__" :=
  .of (owner := "object") (n := "__init__") (by rw [typeLookup_type, builtinLookup_eq_fast]; kernel_rfl) (by decide +kernel) (by decide +kernel) (by decide +kernel)
    (by first | exact .inl (by decide +kernel) | exact .inr (by decide +kernel)) (by rw [isSubtype_type]; kernel_rfl)
theorem slot_map_iter : Slot "map" "__iter__" "map.__iter__" :=
  .of (owner := "map") (n := "__iter__") (by rw [typeLookup_type, builtinLookup_eq_fast]; kernel_rfl) (by decide +kernel) (by decide +kernel) (by decide +kernel)
    (by first | exact .inl (by decide +kernel) | exact .inr (by decide +kernel)) (by rw [isSubtype_type]; kernel_rfl)
theorem args_map_iter (a : Value) : argsOk "map.__iter__" ⟨[a], []⟩ := by
  unfold argsOk; rw [signature?_of (id := "map.__iter__") (n := ['_', '_', 'r', 'e', 't', 'i', '_', '_']) (o := ['p', 'a', 'm']) (by kernel_rfl) owner_map]; kernel_rfl
theorem slot_map_next : Slot "map" "__next__" "map.__next__" :=
  .of (owner := "map") (n := "__next__") (by rw [typeLookup_type, builtinLookup_eq_fast]; kernel_rfl) (by decide +kernel) (by decide +kernel) (by decide +kernel)
    (by first | exact .inl (by decide +kernel) | exact .inr (by decide +kernel)) (by rw [isSubtype_type]; kernel_rfl)
theorem entry_map_next : entryFor table "map.__next__" = some Builtin.«map.__next__» := entryFor_of_tree (by kernel_rfl)
theorem args_map_next (a : Value) : argsOk "map.__next__" ⟨[a], []⟩ := by
  unfold argsOk; rw [signature?_of (id := "map.__next__") (n := ['_', '_', 't', 'x', 'e', 'n', '_', '_']) (o := ['p', 'a', 'm']) (by kernel_rfl) owner_map]; kernel_rfl
theorem entry_map_iter : entryFor table "map.__iter__" = some Builtin.«dict_keyiterator.__iter__» :=
  entryFor_alias (id' := "dict_keyiterator.__iter__") (by kernel_rfl) (by first | rfl | decide +kernel | (unfold String.splitOn; simp +decide [String.splitOnAux])) (by decide +kernel) (by kernel_rfl)
theorem mro_map : mroOf (.type "map") = pure [.type "map", .type "object"] := by rw [mroOf_type]; kernel_rfl
theorem lookup_map_new : typeLookup (.type "map") "__new__" = pure (some (.builtin "map.__new__")) := by rw [typeLookup_type, builtinLookup_eq_fast]; kernel_rfl
theorem called_map : TypeCalled "map" "map.__new__" "object.__init__" :=
  ⟨by decide +kernel, by decide +kernel, ⟨_, _, mro_map⟩, madeBy_type mro_map lookup_map_new (by decide +kernel), by decide +kernel, by rw [isSubtype_type]; kernel_rfl, slot_map_init⟩
theorem typeCall_map (a b : Value) : checkTypeCall "map" ⟨[a, b], []⟩ = pure () := by kernel_rfl
theorem newCall_map (a b : Value) : checkBuiltinCall "map.__new__" ⟨[.type "map", a, b], []⟩ = pure () := by kernel_rfl
theorem entry_map_new : entryFor table "map.__new__" = some Builtin.«map.__new__» := entryFor_of_tree (by kernel_rfl)
theorem sub_map : isSubtype (.type "map") (.type "map") = pure true := by rw [isSubtype_type]; kernel_rfl
theorem map_no_len : typeLookup (.type "map") "__len__" = pure none := by rw [typeLookup_type, builtinLookup_eq_fast]; kernel_rfl
theorem map_no_hint : typeLookup (.type "map") "__length_hint__" = pure none := by rw [typeLookup_type, builtinLookup_eq_fast]; kernel_rfl
abbrev IsMap (h : Heap) (z TI : Addr) (f : Value) : Prop :=
  h.get? z = some { cls := .type "map", dict := none, data := .fields #[.ref TI, f], slots := #[] }
abbrev IsOne (h : Heap) (T : Addr) (a : Value) : Prop := h.get? T = some { cls := .type "tuple", data := .seq #[a] }
abbrev mapH1 (h : Heap) (l : Addr) : Heap := h.push { cls := .type "list_iterator", data := .fields #[.ref l, .int 0 0] }
abbrev mapH2 (h : Heap) (l : Addr) : Heap := (mapH1 h l).push { cls := .type "tuple", data := .seq #[.ref h.objs.size] }
abbrev mapH3 (h : Heap) (l : Addr) (f : Value) : Heap := (mapH2 h l).push { cls := .type "map", data := .fields #[.ref (mapH1 h l).objs.size, f] }
theorem meets_map_new (l : Addr) (id : String) (xs : Array Value) :
    Meets (Builtin.«map.__new__» ⟨[.type "map", .builtin id, .ref l], []⟩) (fun _ R s => s.heap.IsList l xs ∧
      R (.ok (.ret (.ref (mapH2 s.heap l).objs.size))) { s with heap := mapH3 s.heap l (.builtin id) }) :=
  .of_wp fun prog w A R s h => by
    obtain ⟨hp, g, d, tk, os⟩ := s; obtain ⟨hl, h⟩ := h
    have hsub := sub_map
    have hL : Heap.IsList (Shared.heap ⟨hp, g, d, tk, os⟩) l xs := hl
    wp_walk using wpAny_pyIter_list hL
    exact ⟨_, rfl, h⟩
section
variable {prog : Program} {w : World} {A : Around} {E : Value → Shared → Prop} {s : Shared}
theorem call_map {l : Addr} {id : String} {xs : Array Value} {Q : Value → Shared → Prop} (hl : s.heap.IsList l xs)
    (h : ∀ h', IsMap h' (s.heap.objs.size + 2) (s.heap.objs.size + 1) (.builtin id) → IsOne h' (s.heap.objs.size + 1) (.ref s.heap.objs.size) → h'.IsListIter s.heap.objs.size l 0 → h'.objs.size = s.heap.objs.size + 3 →
      (∀ c o, s.heap.get? c = some o → h'.get? c = some o) → Q (.ref (s.heap.objs.size + 2)) { s with heap := h' }) :
    wpAny (model prog w) A (call (.type "map") [.builtin id, .ref l]) Q E s := by
  refine callType_new called_map (by decide) (typeCall_map _ _) (newCall_map _ _) (fun obj => F.args_object_init_3 obj _ _) entry_map_new
    (meets_map_new l id xs) ⟨hl, ?_⟩
  have z1 : (mapH1 s.heap l).objs.size = s.heap.objs.size + 1 := Heap.size_push ..
  have z2 : (mapH2 s.heap l).objs.size = s.heap.objs.size + 2 := by rw [Heap.size_push, z1]
  have z3 : (mapH3 s.heap l (.builtin id)).objs.size = s.heap.objs.size + 3 := by rw [Heap.size_push, z2]
  have g3 : (mapH3 s.heap l (.builtin id)).get? (mapH2 s.heap l).objs.size = some _ := Heap.get?_push_size _ rfl
  have g2 : (mapH3 s.heap l (.builtin id)).get? (mapH1 s.heap l).objs.size = some _ := Heap.get?_push_of_some _ (Heap.get?_push_size _ rfl)
  have g1 : (mapH3 s.heap l (.builtin id)).get? s.heap.objs.size = some _ := Heap.get?_push_of_some _ (Heap.get?_push_of_some _ (Heap.get?_push_size _ rfl))
  show _ ∧ _
  rw [z1, z2] at g3
  rw [z1] at g2
  rw [z2]
  exact ⟨⟨_, g3, rfl⟩, h _ g3 g2 ⟨_, g1, rfl, rfl⟩ z3 fun c o x =>
    Heap.get?_push_of_some _ (Heap.get?_push_of_some _ (Heap.get?_push_of_some _ x))⟩
theorem wpAny_pyNext_map_item {z TI it l : Addr} {i : Nat} {xs : Array Value} {y : Str} {u : Tok} {Q : Option Value → Shared → Prop}
    (hz : IsMap s.heap z TI (.builtin "str.capitalize")) (hT : IsOne s.heap TI (.ref it)) (hi : s.heap.IsListIter it l i) (hl : s.heap.IsList l xs) (hx : xs[i]? = some (.str y u))
    (h1 : z ≠ it) (hy : y.length ≤ 5592405)
    (hQ : ∀ h' t' k, h'.IsListIter it l (i + 1) → Heap.SameBut it s.heap h' → Q (some (.str (Txt.capitalize y) t')) { s with heap := h', toks := k }) :
    wpAny (model prog w) A (pyNext (.ref z)) Q E s := by
  have hty : s.TypeIs (.ref z) "map" := ⟨_, hz, rfl⟩
  unfold pyNext
  refine wpAny_bind (wpAny_attempt (wpAny_callSpecial?_slot (name := Str.ofString "__next__") hty slot_map_next
    (wpAny_call_entry slot_map_next hty entry_map_next ?_ (args_map_next _))))
  show wpAny _ _ (field (.ref z) 0 >>= _) _ _ _
  refine wpAny_bind (wpAny_field hz rfl (x := .ref TI) rfl ?_)
  refine wpAny_bind (wpAny_seqItems hT rfl ?_)
  refine wpAny_bind ?_
  simp only [List.forIn_cons, List.forIn_nil, List.forIn_toArray]
  refine wpAny_bind (wpAny_bind (wpAny_holding (wpAny_nextOf_list_item hi hl hx fun h₂ hi₂ hs₂ => wpAny_pure (wpAny_pure ?_))))
  have hz₂ : IsMap h₂ z TI (.builtin "str.capitalize") := hs₂.extBut _ _ h1 hz
  refine wpAny_bind (wpAny_field hz₂ rfl (x := .builtin "str.capitalize") rfl ?_)
  refine wpAny_bind (wpAny_holding ?_)
  refine SCL.capitalize hy fun t' k _ => ?_
  refine wpAny_bind (wpAny_letGo (wpAny_pure ⟨_, rfl, wpAny_pure (hQ h₂ t' k hi₂ hs₂)⟩))
theorem wpAny_pyNext_map_end {z TI it l : Addr} {i : Nat} {xs : Array Value} {f : Value} {Q : Option Value → Shared → Prop} (hh : A.handled = none)
    (hz : IsMap s.heap z TI f) (hT : IsOne s.heap TI (.ref it)) (hi : s.heap.IsListIter it l i) (hl : s.heap.IsList l xs) (hx : xs[i]? = none)
    (hQ : ∀ h', Heap.ExtBut it s.heap h' → Q none { s with heap := h' }) :
    wpAny (model prog w) A (pyNext (.ref z)) Q E s := by
  have hty : s.TypeIs (.ref z) "map" := ⟨_, hz, rfl⟩
  unfold pyNext
  refine wpAny_bind (wpAny_attempt (wpAny_callSpecial?_slot (name := Str.ofString "__next__") hty slot_map_next
    (wpAny_call_entry slot_map_next hty entry_map_next ?_ (args_map_next _))))
  show wpAny _ _ (field (.ref z) 0 >>= _) _ _ _
  refine wpAny_bind (wpAny_field hz rfl (x := .ref TI) rfl ?_)
  refine wpAny_bind (wpAny_seqItems hT rfl ?_)
  refine wpAny_bind ?_
  simp only [List.forIn_cons, List.forIn_nil, List.forIn_toArray]
  refine wpAny_bind (wpAny_bind (wpAny_holding (wpAny_nextOf_list_end hh hi hl hx fun h' e hk he => ?_)))
  obtain ⟨o, ho, hc⟩ := he
  refine wpAny_bind (wpAny_isInstance (T := "StopIteration") (b := true) ⟨o, ho, hc⟩ isSubtype_stop ?_)
  exact wpAny_pure (hQ _ hk)
theorem wpAny_pyIter_map {z TI : Addr} {f : Value} {Q : Value → Shared → Prop} (hz : IsMap s.heap z TI f) (h : Q (.ref z) s) : wpAny (model prog w) A (pyIter (.ref z)) Q E s := by
  have hT : s.TypeIs (.ref z) "map" := ⟨_, hz, rfl⟩
  refine wpAny_pyIter_slot hT slot_map_iter (wpAny_call_entry slot_map_iter hT entry_map_iter ?_ (args_map_iter _))
  show wpAny _ _ (ret (.ref z)) _ _ s
  exact wpAny_pure ⟨_, rfl, "map", _, hT, slot_map_next.lookup, h⟩
/-- a walk over a map object of str.capitalize upon a list of texts -/
theorem WalksS_map (hh : A.handled = none) (z TI it l : Addr) (vs : List (Str × Tok)) (hsz : ∀ p ∈ vs, p.1.length ≤ 5592405) (h1 : z ≠ it) (h2 : TI ≠ it) (h3 : l ≠ it) :
    WalksS prog w A z [z, TI, it, l] [it] (fun a b => b = a) vs.length (fun i v => ∃ p t, vs[i]? = some p ∧ v = .str (Txt.capitalize p.1) t)
      (fun i s => IsMap s.heap z TI (.builtin "str.capitalize") ∧ IsOne s.heap TI (.ref it) ∧ s.heap.IsListIter it l i ∧ s.heap.IsList l (strValues vs).toArray) where
  sub := fun c hc => by simp at hc; simp [hc]
  grefl := fun _ => rfl
  gtrans := fun _ _ _ e1 e2 => e2.trans e1
  frame := fun i s h' tk st htk hk =>
    ⟨hk z (by simp) _ st.1, hk TI (by simp) _ st.2.1, st.2.2.1.at fun o e => hk it (by simp) o e, st.2.2.2.at fun o e => hk l (by simp) o e⟩
  item := fun i s Q E hi st hQ => by
    obtain ⟨hz, hT, hit, hl⟩ := st
    have hv : vs[i]? = some vs[i] := List.getElem?_eq_getElem hi
    have hx : (strValues vs).toArray[i]? = some (.str vs[i].1 vs[i].2) := by
      unfold strValues
      simp [hv]
    refine wpAny_with_toks (Nat.le_refl s.toks) (wpAny_pyNext_map_item hz hT hit hl hx h1 (hsz _ (List.getElem_mem hi)) fun h' t' k hit' hs' htk => ?_)
    exact hQ _ _ ⟨_, t', hv, rfl⟩ ⟨hs'.extBut _ _ h1 hz, hs'.extBut _ _ h2 hT, hit', hl.extBut hs'.extBut h3⟩
      ⟨fun b o hb e => hs'.extBut _ _ (fun q => hb (List.mem_singleton.mpr q)) e, rfl, rfl, rfl, htk⟩
  done := fun s Q E st hQ => by
    obtain ⟨hz, hT, hit, hl⟩ := st
    have hx : (strValues vs).toArray[vs.length]? = none := by
      unfold strValues
      simp
    refine wpAny_with_toks (Nat.le_refl s.toks) (wpAny_pyNext_map_end hh hz hT hit hl hx fun h' hk htk => ?_)
    exact hQ _ ⟨fun b o hb e => hk b o (fun q => hb (List.mem_singleton.mpr q)) e, rfl, rfl, rfl, htk⟩
  self := fun i s Q E st hQ => wpAny_pyIter_map st.1 hQ
variable {I : Addr} {fp wr : List Addr} {G : Array GenState → Array GenState → Prop} {n : Nat} {P : Nat → Value → Prop} {St : Nat → Shared → Prop}
theorem collect_map {Q : List Value → Shared → Prop} (W : WalksS prog w A.in1 I fp wr G n P St) (hT : ∀ i s, St i s → s.TypeIs (.ref I) "map") (hst : St 0 s) (hfp : ∀ b ∈ fp, b < s.heap.objs.size) (hI : I ∈ fp)
    (hQ : ∀ s' acc, Moved wr G s s' → ItemsOf P acc n → Q acc.toList s') (hn : n ≤ sizeLine) : wpAny (model prog w) A (collect (.ref I)) Q E s := by
  have hSf : s.heap.objs.size ∉ fp := fun hm => Nat.lt_irrefl _ (hfp _ hm)
  have hSI : s.heap.objs.size ≠ I := fun e => hSf (e ▸ hI)
  unfold collect
  refine wpAny_bind (wpAny_runValue (codeAny_builtin F.entry_proto_collect ?_))
  rw [Around.under_plainId F.plain_proto_collect _]
  show wpAny _ A.in1 (newList [] >>= fun l => again (.builtin "list.__iadd__" ⟨[l, .ref I], []⟩)) _ _ s
  refine wpAny_bind (wpAny_newObj_type ?_)
  refine wpAny_pure ⟨plainId_quiet F.plain_list_iadd _, codeAny_builtin F.entry_list_iadd ?_⟩
  rw [Around.under_plainId F.plain_list_iadd _]
  have hst₁ := W.frame 0 s (s.heap.push { cls := .type "list", data := .seq ([] : List Value).toArray }) s.toks hst (Nat.le_refl _) fun b _ o e => Heap.get?_push_of_some _ e
  show wpAny _ A.in1 (Builtin.List.listExtendWith (.ref s.heap.objs.size) (.ref I) (.ref s.heap.objs.size)) _ _ _
  unfold Builtin.List.listExtendWith
  refine wpAny_bind (wpAny_typeOf (hT 0 _ hst₁) ?_)
  have h1 : Builtin.List.listSameRef (.ref s.heap.objs.size) (.ref I) = false := by simp [Builtin.List.listSameRef, hSI]
  have h2 : (Value.type "map" == Value.type "list") = false := by decide
  have h3 : (Value.type "map" == Value.type "tuple") = false := by decide
  simp only [h1, h2, h3, Bool.or_false, Bool.false_eq_true, if_false]
  refine wpAny_bind (W.self 0 _ _ _ hst₁ ?_)
  refine wpAny_bind (wpAny_holding ?_)
  unfold Builtin.List.listLengthHint
  refine wpAny_bind (wpAny_specialOf (hT 0 _ hst₁) map_no_len ?_)
  show wpAny _ A.in1 (specialOf (Value.ref I) (Str.ofString "__length_hint__") >>= _) _ _ _
  refine wpAny_bind (wpAny_specialOf (hT 0 _ hst₁) map_no_hint ?_)
  refine wpAny_pure ?_
  show wpAny _ A.in1 (rule "list.extend.makes-room" >>= fun _ => Builtin.List.listTouch (.ref s.heap.objs.size) >>= fun _ =>
    again (.builtin "list.extend.loop" ⟨[.ref s.heap.objs.size, .ref I, .ref s.heap.objs.size], []⟩)) _ _ _
  refine wpAny_bind (wpAny_rule ?_)
  have hS₁ : (s.heap.push { cls := .type "list", data := .seq ([] : List Value).toArray }).get? s.heap.objs.size = some { cls := .type "list", data := .seq ([] : List Value).toArray } := Heap.get?_push_size _ rfl
  refine wpAny_bind ?_
  show wpAny _ A.in1 (updateSeq s.heap.objs.size (·.push .none) >>= fun _ => updateSeq s.heap.objs.size (·.pop)) _ _ _
  refine wpAny_bind (wpAny_updateSeq hS₁ rfl ?_)
  have hS₂ := Heap.get?_update_self (Obj.mapSeq (·.push Value.none)) hS₁ rfl
  refine wpAny_updateSeq hS₂ rfl ?_
  have hS₃ := Heap.get?_update_self (Obj.mapSeq (·.pop)) hS₂ rfl
  have oth : ∀ b o, b ≠ s.heap.objs.size → (s.heap.push { cls := .type "list", data := .seq ([] : List Value).toArray }).get? b = some o →
      (((s.heap.push { cls := .type "list", data := .seq ([] : List Value).toArray }).update s.heap.objs.size (Obj.mapSeq (·.push Value.none))).update s.heap.objs.size (Obj.mapSeq (·.pop))).get? b = some o :=
    fun b o hb e => (Heap.get?_update_other _ _ (Ne.symm hb)).trans ((Heap.get?_update_other _ _ (Ne.symm hb)).trans e)
  refine wpAny_pure ⟨plainId_quiet F.plain_extend_loop _, codeAny_extend_loopS W hn _ hSf _ n 0 _ _ _ rfl (Nat.zero_le _)
    (W.frame 0 ({ s with heap := s.heap.push { cls := .type "list", data := .seq ([] : List Value).toArray } } : Shared) _ s.toks hst₁ (Nat.le_refl _) fun b hb o e => oth b o (fun h => hSf (h ▸ hb)) e) hS₃ (ItemsOf.nil P) fun s' acc' c' hm hS' hacc => ?_⟩
  show wpAny _ A (load s.heap.objs.size >>= _) _ _ s'
  refine wpAny_bind (wpAny_load hS' ?_)
  refine wpAny_pure (hQ s' acc' (Moved.drop_new (o := { cls := .type "list", data := .seq ([] : List Value).toArray }) (tk := s.toks) (Moved.trans W.gtrans ((Moved.refl W.grefl).then_heap (Nat.le_refl _) fun b o hb e => ?_) hm) (Nat.le_refl _)) hacc)
  exact oth b o (fun h => hb (h ▸ List.mem_cons_self)) e
theorem items_texts {vs : List (Str × Tok)} {l : List (Str × Tok)} (h : ItemsOf (fun i v => ∃ p t, vs[i]? = some p ∧ v = .str (Txt.capitalize p.1) t) (strValues l).toArray vs.length) :
    l.map (·.1) = (vs.map (·.1)).map Txt.capitalize := by
  apply List.ext_getElem?
  intro i
  have hlen : l.length = vs.length := by
    have := h.1
    unfold strValues at this
    simpa using this
  simp only [List.getElem?_map]
  cases hl : l[i]? with
  | none =>
    have : vs[i]? = none := by
      rw [List.getElem?_eq_none_iff] at hl ⊢; omega
    rw [this]; rfl
  | some q =>
    have hv : (strValues l).toArray[i]? = some (.str q.1 q.2) := by
      unfold strValues
      simp [hl]
    obtain ⟨p, t, hp, e⟩ := h.2 i _ hv
    rw [hp]
    injection e with e1 _
    show some q.1 = some (Txt.capitalize p.1)
    rw [e1]
theorem join_map {x : Str} {t : Tok} {z TI it l : Addr} {vs : List (Str × Tok)} {Q : Value → Shared → Prop} (hh : A.handled = none)
    (hz : IsMap s.heap z TI (.builtin "str.capitalize")) (hT : IsOne s.heap TI (.ref it)) (hi : s.heap.IsListIter it l 0) (hl : s.heap.IsList l (strValues vs).toArray)
    (hsz : ∀ p ∈ vs, p.1.length ≤ 5592405) (h1 : z ≠ it) (h2 : TI ≠ it) (h3 : l ≠ it) (hn : vs.length ≤ sizeLine)
    (hok : JoinOk x ((vs.map (·.1)).map Txt.capitalize) = true)
    (hq : ∀ h' t' k, (∀ b o, b ≠ it → s.heap.get? b = some o → h'.get? b = some o) → Q (.str (Txt.join x ((vs.map (·.1)).map Txt.capitalize)) t') { s with heap := h', toks := k }) :
    wpAny (model prog w) A (call (.builtin "str.join") [.str x t, .ref z]) Q E s := by
  have W := WalksS_map (prog := prog) (w := w) (A := A.in1.in1) hh z TI it l vs hsz h1 h2 h3
  have hty : ∀ i s, (fun i (s : Shared) => IsMap s.heap z TI (.builtin "str.capitalize") ∧ IsOne s.heap TI (.ref it) ∧ s.heap.IsListIter it l i ∧ s.heap.IsList l (strValues vs).toArray) i s → s.TypeIs (.ref z) "map" :=
    fun i s st => ⟨_, st.1, rfl⟩
  refine wpAny_call (codeAny_call_builtin F.slot_str_join.plain F.entry_str_join (F.slot_str_join.check _ _ _ _ _ _ _ _ (typeIs_str _ _ _) (F.args_str_join_2 _ _) ?_))
  rw [join_tree_other]
  refine wpAny_bind (wpAny_typeOf (hty 0 s ⟨hz, hT, hi, hl⟩) ?_)
  show wpAny _ A.in1 ((pyIter (.ref z)).tryCatch _ >>= fun it => collect it >>= fun items => joinTail x items) _ _ s
  refine wpAny_bind (wpAny_tryCatch (W.of_in1.self 0 s _ _ ⟨hz, hT, hi, hl⟩ ?_))
  refine wpAny_bind (collect_map W hty ⟨hz, hT, hi, hl⟩ (fun b hb => ?_) (by simp) (fun s' acc hm hacc => ?_) hn)
  · simp only [List.mem_cons, List.not_mem_nil, or_false] at hb
    rcases hb with rfl | rfl | rfl | rfl
    · exact Heap.lt_size hz
    · exact Heap.lt_size hT
    · obtain ⟨o, e, _⟩ := hi; exact Heap.lt_size e
    · obtain ⟨o, e, _⟩ := hl; exact Heap.lt_size e
  obtain ⟨ls, hls⟩ := exists_strValues acc.toList fun v hv => by
    obtain ⟨j, hj, rfl⟩ := Array.mem_iff_getElem.mp (Array.mem_toList_iff.mp hv)
    obtain ⟨p, t, _, e⟩ := hacc.2 j _ (Array.getElem?_eq_getElem hj)
    exact ⟨_, _, e⟩
  rw [← hls]
  have hacc' := hacc
  rw [show acc = (strValues ls).toArray by rw [hls]] at hacc'
  have he := items_texts hacc'
  rw [← he] at hok hq
  have hok' := hok
  unfold JoinOk at hok
  rw [Bool.not_eq_true'] at hok
  have g : Gives (joinTail x (strValues ls)) (joinMade x ls) := by
    have g0 := gives_joinTail x ls hok
    cases ls with
    | nil => exact g0
    | cons p r => cases r with
      | nil => exact g0
      | cons q r' => exact g0
  refine g prog w A (wants Q E) s' (post_join ls ⟨joinFit_length hok, fun t' k => ?_⟩)
  obtain ⟨heap, gens, drawn, toks, os⟩ := s'
  have e1 : gens = s.gens := hm.gens
  have e2 : drawn = s.drawn := hm.drawn
  have e3 : os = s.os := hm.os
  subst e1 e2 e3
  exact hq heap t' k fun b o hb e => hm.heap b o (fun q => hb (List.mem_singleton.mp q)) e
end
end Mine
end MapJoinPart
section CompPart
open PySem PySem.W PyProof.Rows PySem.Calls PySem.Builtin PySem.Builtin.Str
namespace Mine
abbrev blank : Str := Str.ofString " "
abbrev stroke : Str := Str.ofString "-"
def plainOf (x : Str) : Str := Txt.replace (Txt.replace x (Str.ofString "\t") (Str.ofString " ")) (Str.ofString "\n") (Str.ofString " ")
def wordsOf' (x : Str) : List Str := (Txt.split (plainOf x) blank).filter fun v => decide (v ≠ Str.ofString "")
def dueOf (x : Str) : Str := Txt.join blank ((wordsOf' x).map lw)
theorem e_blank : Str.ofString " " = ⟨#[32]⟩ := by decide +kernel
theorem e_stroke : Str.ofString "-" = ⟨#[45]⟩ := by decide +kernel
theorem e_tab : Str.ofString "\t" = ⟨#[9]⟩ := by decide +kernel
theorem e_row : Str.ofString "\n" = ⟨#[10]⟩ := by decide +kernel
theorem e_none : Str.ofString "" = ⟨#[]⟩ := by decide +kernel
theorem sg_len (x : Str) : (sg x).length = x.length := by simp [Str.length]
theorem replace_ok {x : Str} (hx : TextOk x) (c : Nat) : TextOk (Txt.replace x ⟨#[c]⟩ ⟨#[32]⟩) := by
  refine ⟨?_, ?_⟩
  · intro k hk
    have hk' : k ∈ sg (Txt.replace x ⟨#[c]⟩ ⟨#[32]⟩) := hk
    rw [replace_eq] at hk'
    obtain ⟨a, ha, rfl⟩ := List.mem_map.mp hk'
    split
    · decide
    · exact hx.signs a ha
  · rw [← sg_len, replace_eq, List.length_map, sg_len]; exact hx.len
theorem plain_ok {x : Str} (hx : TextOk x) : TextOk (plainOf x) := by
  unfold plainOf
  rw [e_tab, e_row, e_blank]
  exact replace_ok (replace_ok hx 9) 10
theorem split_ok {x p : Str} {c : Nat} (hx : TextOk x) (h : p ∈ Txt.split x ⟨#[c]⟩) : TextOk p := by
  refine ⟨fun k hk => ?_, Nat.le_trans (part_short h) hx.len⟩
  have hm : sg p ∈ splitP (· == c) (sg x) := by rw [← split_eq]; exact List.mem_map_of_mem h
  exact hx.signs k (splitP_mem _ _ _ hm k hk).1
theorem strsAre_texts : ∀ {ys : List Value} {zs : List Str}, StrsAre ys zs → ∃ l : List (Str × Tok), strValues l = ys ∧ l.map (·.1) = zs
  | _, _, .nil => ⟨[], rfl, rfl⟩
  | _, _, .cons y t h => by
    obtain ⟨l, e1, e2⟩ := strsAre_texts h
    exact ⟨(y, t) :: l, by rw [← e1]; rfl, by rw [← e2]; rfl⟩
theorem strsAre_snoc {y : Str} {t : Tok} : ∀ {vs : List Value} {ys : List Str}, StrsAre vs ys → StrsAre (vs ++ [.str y t]) (ys ++ [y])
  | _, _, .nil => .cons y t .nil
  | _, _, .cons z u r => .cons z u (strsAre_snoc r)
def WEl (news : List (Addr × Obj)) (r : Str) (c : Prop) (y : Value) (news' : List (Addr × Obj)) : Prop := news' = news ∧ c ∧ ∃ t : Tok, y = .str r t
def WNo (news : List (Addr × Obj)) (c : Prop) (news' : List (Addr × Obj)) : Prop := news' = news ∧ c
section
variable {prog : Program} {w : World} {A : Around} {h₀ : Heap} {L : Addr} {m : Str → Option Value} {env : Env} {ct elt : Expr} {x : Str} {scope : Scope} {cl : List (Str × Addr)} {s : Shared} {S : List (Addr × Obj) → Prop} {Fin : List Value → List (Addr × Obj) → Prop} {news : List (Addr × Obj)}
theorem restT_words {ws : List (Str × Tok)} (g : Str → Str)
    (turn : ∀ word t I oI C oC D m₂ ys h tk (E' : Value → Shared → Prop), word ∈ ws.map (·.1) → LCg.NsObj oC m₂ → m₂ x = some (.str word t) → Fr h₀ L h m → News h₀ L h ((I, oI) :: (C, oC) :: (D, LCg.lst ys) :: news) → LCg.Off3 I C D news → ((@Ne Nat I C) ∧ (@Ne Nat I D) ∧ (@Ne Nat C D)) →
      wpAny (model prog w) A (isTrue ct (compEnvC scope cl C env) (eval ct (compEnvC scope cl C env))) (fun ok s' => if ok = true then
        wpAny (model prog w) A (eval elt (compEnvC scope cl C env)) (LCg.CompEnd h₀ L m { s with heap := h, toks := tk } I oI C oC D (LCg.lst ys) S (fun y news' => WEl news (g word) (word ≠ Str.ofString "") y news')) E' s'
        else LCg.CompEnd h₀ L m { s with heap := h, toks := tk } I oI C oC D (LCg.lst ys) S (fun _ news' => WNo news (word = Str.ofString "") news') Value.none s') E' { s with heap := h, toks := tk })
    (fin : ∀ ys, StrsAre ys (((ws.map (·.1)).filter fun v => decide (v ≠ Str.ofString "")).map g) → Fin ys news) :
    LCt.CompRestT prog w A h₀ L m env ct elt x scope cl s S (fun i v => (strValues ws).toArray[i]? = some v) Fin (strValues ws).toArray.size 0 [] news := by
  have hsz : (strValues ws).toArray.size = ws.length := by unfold strValues; simp
  rw [hsz]
  have key : ∀ (j i : Nat) (ys : List Value), i + j = ws.length → StrsAre ys ((((ws.map (·.1)).take i).filter fun v => decide (v ≠ Str.ofString "")).map g) →
      LCt.CompRestT prog w A h₀ L m env ct elt x scope cl s S (fun i v => (strValues ws).toArray[i]? = some v) Fin j i ys news := by
    intro j
    induction j with
    | zero =>
      intro i ys hi hy
      refine LCt.CompRestT.zero (fin ys ?_)
      rwa [List.take_of_length_le (by rw [List.length_map]; omega)] at hy
    | succ j ih =>
      intro i ys hi hy
      refine LCt.CompRestT.succ ?_
      intro v I oI C oC D m₂ h tk E' hv hC hx F N off ne
      have hlt : i < ws.length := by omega
      have hget : ws[i]? = some ws[i] := List.getElem?_eq_getElem hlt
      have hv' : v = .str ws[i].1 ws[i].2 := by
        unfold strValues at hv
        simp [hget] at hv
        exact hv.symm
      have htake : (ws.map (·.1)).take (i + 1) = (ws.map (·.1)).take i ++ [ws[i].1] := by
        rw [List.take_add_one, List.getElem?_map, hget]; rfl
      rw [hv'] at hx
      refine wpAny_mono (turn ws[i].1 ws[i].2 I oI C oC D m₂ ys h tk E' (List.mem_map_of_mem (List.getElem_mem hlt)) hC hx F N off ne) (fun ok s' hq => ?_) fun _ _ e => e
      cases ok with
      | true =>
        simp only [if_true] at hq ⊢
        refine wpAny_mono hq (fun y s₂ hq => ?_) fun _ _ e => e
        obtain ⟨h', tk', nw, e, F', N', off', hS, hn, hc, t', hy'⟩ := hq
        subst hn
        refine ⟨h', tk', nw, e, F', N', off', hS, ?_⟩
        rw [hy']
        refine ih (i + 1) _ (by omega) ?_
        rw [htake, List.filter_append, List.map_append]
        have : List.filter (fun v => decide (v ≠ Str.ofString "")) [ws[i].1] = [ws[i].1] := by simp [hc]
        rw [this]
        exact strsAre_snoc hy
      | false =>
        simp only [Bool.false_eq_true, if_false] at hq ⊢
        obtain ⟨h', tk', nw, e, F', N', off', hS, hn, hc⟩ := hq
        subst hn
        refine ⟨h', tk', nw, e, F', N', off', hS, ?_⟩
        refine ih (i + 1) _ (by omega) ?_
        rw [htake, List.filter_append, List.map_append]
        have : List.filter (fun v => decide (v ≠ Str.ofString "")) [ws[i].1] = [] := by rw [hc]; simp
        rw [this, List.map_nil, List.append_nil]
        exact hy
  refine key ws.length 0 [] (by omega) ?_
  rw [List.take_zero]
  exact .nil
theorem rest_words {ws : List (Str × Tok)} (g : Str → Str)
    (turn : ∀ word t I oI C oC D m₂ ys h tk (E' : Value → Shared → Prop), word ∈ ws.map (·.1) → LCg.NsObj oC m₂ → m₂ x = some (.str word t) → Fr h₀ L h m → News h₀ L h ((I, oI) :: (C, oC) :: (D, LCg.lst ys) :: news) → LCg.Off3 I C D news → ((@Ne Nat I C) ∧ (@Ne Nat I D) ∧ (@Ne Nat C D)) →
      wpAny (model prog w) A (eval elt (compEnvC scope cl C env)) (LCg.CompEnd h₀ L m { s with heap := h, toks := tk } I oI C oC D (LCg.lst ys) S (fun y news' => WEl news (g word) True y news')) E' { s with heap := h, toks := tk })
    (fin : ∀ ys, StrsAre ys ((ws.map (·.1)).map g) → Fin ys news) :
    LCg.CompRest prog w A h₀ L m env elt x scope cl s S (fun i v => (strValues ws).toArray[i]? = some v) Fin (strValues ws).toArray.size 0 [] news := by
  have hsz : (strValues ws).toArray.size = ws.length := by unfold strValues; simp
  rw [hsz]
  have key : ∀ (j i : Nat) (ys : List Value), i + j = ws.length → StrsAre ys (((ws.map (·.1)).take i).map g) →
      LCg.CompRest prog w A h₀ L m env elt x scope cl s S (fun i v => (strValues ws).toArray[i]? = some v) Fin j i ys news := by
    intro j
    induction j with
    | zero =>
      intro i ys hi hy
      refine LCg.CompRest.zero (fin ys ?_)
      rwa [List.take_of_length_le (by rw [List.length_map]; omega)] at hy
    | succ j ih =>
      intro i ys hi hy
      refine LCg.CompRest.succ ?_
      intro v I oI C oC D m₂ h tk E' hv hC hx F N off ne
      have hlt : i < ws.length := by omega
      have hget : ws[i]? = some ws[i] := List.getElem?_eq_getElem hlt
      have hv' : v = .str ws[i].1 ws[i].2 := by
        unfold strValues at hv
        simp [hget] at hv
        exact hv.symm
      have htake : (ws.map (·.1)).take (i + 1) = (ws.map (·.1)).take i ++ [ws[i].1] := by
        rw [List.take_add_one, List.getElem?_map, hget]; rfl
      rw [hv'] at hx
      refine wpAny_mono (turn ws[i].1 ws[i].2 I oI C oC D m₂ ys h tk E' (List.mem_map_of_mem (List.getElem_mem hlt)) hC hx F N off ne) (fun y s₂ hq => ?_) fun _ _ e => e
      obtain ⟨h', tk', nw, e, F', N', off', hS, hn, _, t', hy'⟩ := hq
      subst hn
      refine ⟨h', tk', nw, e, F', N', off', hS, ?_⟩
      rw [hy']
      refine ih (i + 1) _ (by omega) ?_
      rw [htake, List.map_append]
      exact strsAre_snoc hy
  refine key ws.length 0 [] (by omega) ?_
  rw [List.take_zero]
  exact .nil
end
section
variable {prog : Program} {w : World} {A : Around} {E : Value → Shared → Prop} {h₀ : Heap} {L : Addr} {m : Str → Option Value} {env : Env} {ct elt : Expr} {x : Str} {scope : Scope} {cl : List (Str × Addr)} {s s₁ : Shared} {Fin : Shared → List Value → List (Addr × Obj) → Prop} {news : List (Addr × Obj)}
abbrev lstOf (l : List (Str × Tok)) : Obj := { cls := .type "list", data := .seq (strValues l).toArray }
theorem srcT_words {ax : Addr} {ws : List (Str × Tok)} {X y : Str} {c : Nat} (hh : A.handled = none) (F : Fr h₀ L s₁.heap m) (N : News h₀ L s₁.heap news) (hm : (ax, lstOf ws) ∈ news)
    (he : ws.map (·.1) = Txt.split X y) (hX : TextOk X) (hy : y = ⟨#[c]⟩)
    (turn : ∀ word t I oI C oC D m₂ ys h tk (E' : Value → Shared → Prop), TextOk word → LCg.NsObj oC m₂ → m₂ x = some (.str word t) → Fr h₀ L h m → News h₀ L h ((I, oI) :: (C, oC) :: (D, LCg.lst ys) :: news) → LCg.Off3 I C D news → ((@Ne Nat I C) ∧ (@Ne Nat I D) ∧ (@Ne Nat C D)) →
      wpAny (model prog w) A (isTrue ct (compEnvC scope cl C env) (eval ct (compEnvC scope cl C env))) (fun ok s' => if ok = true then
        wpAny (model prog w) A (eval elt (compEnvC scope cl C env)) (LCg.CompEnd h₀ L m { s₁ with heap := h, toks := tk } I oI C oC D (LCg.lst ys) (LCg.SrcAt h₀ ax (strValues ws).toArray) (fun y news' => WEl news (lw word) (word ≠ Str.ofString "") y news')) E' s'
        else LCg.CompEnd h₀ L m { s₁ with heap := h, toks := tk } I oI C oC D (LCg.lst ys) (LCg.SrcAt h₀ ax (strValues ws).toArray) (fun _ news' => WNo news (word = Str.ofString "") news') Value.none s') E' { s₁ with heap := h, toks := tk })
    (fin : ∀ g' ys, StrsAre ys (((Txt.split X y).filter fun v => decide (v ≠ Str.ofString "")).map lw) → Fin { s₁ with heap := g' } ys news) :
    LCt.CompSrcT prog w A h₀ L m env ct elt x scope cl Fin (.ref ax) s₁ := by
  have hlen : (strValues ws).toArray.size ≤ sizeLine := by
    have h1 := len_le_of_split he
    have h2 := hX.len
    have h3 : (strValues ws).toArray.size = ws.length := by unfold strValues; simp
    rw [h3, sizeLine_eq]; omega
  refine LCt.CompSrcT.ledger hh F N hm hlen fun g' => ?_
  refine restT_words lw (fun word t I oI C oC D m₂ ys h tk E' hw => ?_) fun ys hys => fin g' ys (by rw [← he]; exact hys)
  exact turn word t I oI C oC D m₂ ys h tk E' (split_ok hX (by rw [← hy, ← he]; exact hw))
theorem src_words {ax : Addr} {ws : List (Str × Tok)} {X y : Str} {c : Nat} (hh : A.handled = none) (F : Fr h₀ L s₁.heap m) (N : News h₀ L s₁.heap news) (hm : (ax, lstOf ws) ∈ news)
    (he : ws.map (·.1) = Txt.split X y) (hX : TextOk X) (hy : y = ⟨#[c]⟩)
    (turn : ∀ word t I oI C oC D m₂ ys h tk (E' : Value → Shared → Prop), TextOk word → LCg.NsObj oC m₂ → m₂ x = some (.str word t) → Fr h₀ L h m → News h₀ L h ((I, oI) :: (C, oC) :: (D, LCg.lst ys) :: news) → LCg.Off3 I C D news → ((@Ne Nat I C) ∧ (@Ne Nat I D) ∧ (@Ne Nat C D)) →
      wpAny (model prog w) A (eval elt (compEnvC scope cl C env)) (LCg.CompEnd h₀ L m { s₁ with heap := h, toks := tk } I oI C oC D (LCg.lst ys) (LCg.SrcAt h₀ ax (strValues ws).toArray) (fun y news' => WEl news (lw word) True y news')) E' { s₁ with heap := h, toks := tk })
    (fin : ∀ g' ys, StrsAre ys ((Txt.split X y).map lw) → Fin { s₁ with heap := g' } ys news) :
    LCg.CompSrc prog w A h₀ L m env elt x scope cl Fin (.ref ax) s₁ := by
  have hlen : (strValues ws).toArray.size ≤ sizeLine := by
    have h1 := len_le_of_split he
    have h2 := hX.len
    have h3 : (strValues ws).toArray.size = ws.length := by unfold strValues; simp
    rw [h3, sizeLine_eq]; omega
  refine LCg.CompSrc.ledger hh F N hm hlen fun g' => ?_
  refine rest_words lw (fun word t I oI C oC D m₂ ys h tk E' hw => ?_) fun ys hys => fin g' ys (by rw [← he]; exact hys)
  exact turn word t I oI C oC D m₂ ys h tk E' (split_ok hX (by rw [← hy, ← he]; exact hw))
/-- a map object of str.capitalize upon a list of texts, made by the call -/
def MapAt (h₀ : Heap) (L : Addr) (news : List (Addr × Obj)) (h : Heap) (z : Addr) (vs : List (Str × Tok)) : Prop :=
  ∃ TI it l, IsMap h z TI (.builtin "str.capitalize") ∧ IsOne h TI (.ref it) ∧ h.IsListIter it l 0 ∧ h.IsList l (strValues vs).toArray ∧ z ≠ it ∧ TI ≠ it ∧ l ≠ it ∧ h₀.get? it = none ∧ L ≠ it ∧ ∀ p ∈ news, p.1 ≠ it
theorem map_K {D : Addr} {l : List (Str × Tok)} {Q : Value → Shared → Prop} (F : Fr h₀ L s.heap m) (N : News h₀ L s.heap ((D, lstOf l) :: news))
    (h : ∀ h' z, Fr h₀ L h' m → News h₀ L h' news → MapAt h₀ L news h' z l → Q (.ref z) { s with heap := h' }) :
    wpAny (model prog w) A (call (.type "map") [.builtin "str.capitalize", .ref D]) Q E s := by
  have hm : (D, lstOf l) ∈ (D, lstOf l) :: news := List.mem_cons_self
  have hl : s.heap.IsList D (strValues l).toArray := ⟨_, (N _ hm).1, rfl, _, rfl⟩
  have hlt : D < s.heap.objs.size := Heap.lt_size (N _ hm).1
  have N : News h₀ L s.heap news := fun p hp => N p (List.mem_cons_of_mem _ hp)
  refine call_map hl fun h' hz hT hi _ hk => h h' _ (F.keeps hk) (N.grown hk) ⟨_, _, _, hz, hT, hi, hl.at fun o e => hk _ o e, ?_, ?_, Nat.ne_of_lt hlt, next_is_new F, Nat.ne_of_lt F.ns.lt, fun p hp => Nat.ne_of_lt (Heap.lt_size (N p hp).1)⟩
  · exact Nat.ne_of_gt (Nat.lt_add_of_pos_right (by decide))
  · exact Nat.ne_of_gt (Nat.lt_add_of_pos_right (by decide))
theorem join_K {sep : Str} {t : Tok} {z : Addr} {vs : List (Str × Tok)} {ys : List Str} {Q : Value → Shared → Prop} (hh : A.handled = none) (F : Fr h₀ L s.heap m) (N : News h₀ L s.heap news) (M : MapAt h₀ L news s.heap z vs)
    (hv : vs.map (·.1) = ys) (hsz : ∀ y ∈ ys, y.length ≤ 5592405) (hn : ys.length ≤ sizeLine) (hok : JoinOk sep (ys.map Txt.capitalize) = true)
    (h : ∀ h' t' k, Fr h₀ L h' m → News h₀ L h' news → Q (.str (Txt.join sep (ys.map Txt.capitalize)) t') { s with heap := h', toks := k }) :
    wpAny (model prog w) A (call (.builtin "str.join") [.str sep t, .ref z]) Q E s := by
  subst hv
  obtain ⟨TI, it, l, hz, hT, hi, hl, h1, h2, h3, h4, h5, h6⟩ := M
  refine join_map hh hz hT hi hl (fun p hp => hsz _ (List.mem_map_of_mem hp)) h1 h2 h3 (by rwa [List.length_map] at hn) hok fun h' t' k hk => ?_
  have hk' : ∀ b o, b ∉ [it] → s.heap.get? b = some o → h'.get? b = some o := fun b o hb e => hk b o (fun q => hb (List.mem_singleton.mpr q)) e
  exact h h' t' k (LCg.fr_but F hk' h5 h4) (LCg.news_but N hk' h6)
theorem join_strs {D : Addr} {ys : List Value} {zs : List Str} {sep : Str} {t : Tok} {Q : Value → Shared → Prop} (hl : s.heap.IsList D ys.toArray) (hs : StrsAre ys zs) (hok : JoinOk sep zs = true)
    (hq : ∀ t' k, Q (.str (Txt.join sep zs) t') { s with toks := k }) : wpAny (model prog w) A (call (.builtin "str.join") [.str sep t, .ref D]) Q E s := by
  obtain ⟨l, e1, e2⟩ := strsAre_texts hs
  exact SC.join (by rw [e1]; exact hl) e2 hok hq
end
end Mine
end CompPart
section LinesPart
open PySem PySem.W PyProof.Rows PySem.Calls PySem.Builtin PySem.Builtin.Str
namespace Mine
theorem TextOk.h63 {x : Str} (h : TextOk x) : (x.length : Int) < 9223372036854775808 := by have := h.len; omega
theorem TextOk.two {x : Str} (h : TextOk x) : x.length + 2 ≤ sizeLine := by have := h.len; rw [sizeLine_eq]; omega
theorem lwJ_intro {news : List (Addr × Obj)} {m₀ m' : Str → Option Value} {word z : Str} {i : Nat} {t : Tok} (h1 : m' (Str.ofString "found") = some (.str z t)) (h2 : z = lwT word i)
    (h3 : ∀ z, z ≠ Str.ofString "k" → z ≠ Str.ofString "found" → z ≠ Str.ofString "sign" → m' z = m₀ z) : LwJ news m₀ word i m' news := ⟨rfl, ⟨z, t, h1, h2⟩, h3⟩
section
variable {prog : Program} {w : World} {A : Around} {E : Value → Shared → Prop} {s : Shared} {x y : Str} {t u : Tok} {Q : Value → Shared → Prop}
theorem in_is {b : Bool} (e : Txt.contains x y = b) (h : Q (.bool b) s) : wpAny (model prog w) A (compareOp .In (.str y u) (.str x t)) Q E s := by
  subst e; exact P.in_str h
theorem index_is {i : Int} (hA : A.handled = none) (e : Txt.find x y = i) (hi : 0 ≤ i) (h : Q (.int i s.toks) { s with toks := s.toks + 1 }) :
    wpAny (model prog w) A (call (.builtin "str.index") [.str x t, .str y u]) Q E s := by
  subst e
  exact index_or hA (fun e _ => absurd hi (by rw [e]; decide)) fun _ _ => h
theorem add_lw (hx : x.length ≤ 63) (hy : y.length ≤ 1) (h : ∀ t' k, Q (.str (x ++ y) t') { s with toks := k }) : wpAny (model prog w) A (binaryOp .Add (.str x t) (.str y u)) Q E s :=
  SBL.add (fun t' k _ => h t' k) (by rw [sizeLine_eq]; omega)
theorem c_G_a : Txt.contains (Str.ofString "ABÉ") (Str.ofString "a") = false := by decide +kernel
theorem c_G_A : Txt.contains (Str.ofString "ABÉ") (Str.ofString "A") = true := by decide +kernel
theorem c_G_b : Txt.contains (Str.ofString "ABÉ") (Str.ofString "b") = false := by decide +kernel
theorem c_G_E : Txt.contains (Str.ofString "ABÉ") (Str.ofString "É") = true := by decide +kernel
theorem c_S_a : Txt.contains (Str.ofString "abé") (Str.ofString "a") = true := by decide +kernel
theorem c_S_b : Txt.contains (Str.ofString "abé") (Str.ofString "b") = true := by decide +kernel
theorem c_S_e : Txt.contains (Str.ofString "abé") (Str.ofString "é") = true := by decide +kernel
theorem f_G_A : Txt.find (Str.ofString "ABÉ") (Str.ofString "A") = 0 := by decide +kernel
theorem f_G_E : Txt.find (Str.ofString "ABÉ") (Str.ofString "É") = 2 := by decide +kernel
theorem f_S_a : Txt.find (Str.ofString "abé") (Str.ofString "a") = 0 := by decide +kernel
theorem f_S_b : Txt.find (Str.ofString "abé") (Str.ofString "b") = 1 := by decide +kernel
theorem f_S_e : Txt.find (Str.ofString "abé") (Str.ofString "é") = 2 := by decide +kernel
theorem i_S_0 : Txt.item (Str.ofString "abé") 0 = Str.ofString "a" := by decide +kernel
theorem i_S_2 : Txt.item (Str.ofString "abé") 2 = Str.ofString "é" := by decide +kernel
theorem i_G_0 : Txt.item (Str.ofString "ABÉ") 0 = Str.ofString "A" := by decide +kernel
theorem i_G_1 : Txt.item (Str.ofString "ABÉ") 1 = Str.ofString "B" := by decide +kernel
theorem i_G_2 : Txt.item (Str.ofString "ABÉ") 2 = Str.ofString "É" := by decide +kernel
theorem l_S : (Str.ofString "abé").length = 3 := by decide +kernel
theorem l_G : (Str.ofString "ABÉ").length = 3 := by decide +kernel
theorem item_lit {value slice : Expr} {v : Str} {i : Int} (e : Txt.item x i = v) (hl : x.length = 3) (h0 : 0 ≤ i) (h3 : i < 3)
    (h : Q (.str v s.toks) { s with toks := s.toks + 1 })
    (hs : subscripted slice false (.str x t) (.int i u) = operate [.str x t, .int i u] (getItem (.str x t) (.int i u)) := by with_unfolding_all rfl)
    (ht : ∀ r, letTemporaryGo value (.str x t) r = pure () := by intro _; with_unfolding_all rfl) :
    wpAny (model prog w) A (subscriptTail value slice (.str x t) (.int i u)) Q E s := by
  refine tail_of_ItemOn (SBL.item (by omega) (by omega) (by omega) fun _ => ?_) hs ht
  rw [e]; exact h
theorem ne_cases {a b : Str} (h1 : a ≠ b → Q (.bool true) s) (h2 : a = b → Q (.bool false) s) : wpAny (model prog w) A (compareOp .NotEq (.str a t) (.str b u)) Q E s := by
  refine ne_str ?_
  by_cases h : a = b
  · subst h
    rw [show (a != a) = false by simp]; exact h2 rfl
  · rw [show (a != b) = true from bne_iff_ne.mpr h]; exact h1 h
theorem eq_zero {i : Nat} {b : Bool} (e : decide (i = 0) = b) (h : Q (.bool b) s) : wpAny (model prog w) A (compareOp .Eq (.int (i : Int) t) (.int 0 u)) Q E s := by
  subst e
  refine PyProof.Rows.eq_int ?_
  have e2 : ((i : Int) == 0) = decide (i = 0) := by
    by_cases hi : i = 0
    · subst hi; rfl
    · rw [decide_eq_false hi]
      exact beq_eq_false_iff_ne.mpr (by omega)
  rw [e2]; exact h
theorem eq_zero_t {i : Nat} (e : i = 0) (h : Q (.bool true) s) : wpAny (model prog w) A (compareOp .Eq (.int (i : Int) t) (.int 0 u)) Q E s := eq_zero (decide_eq_true e) h
theorem eq_zero_f {i : Nat} (e : 1 ≤ i) (h : Q (.bool false) s) : wpAny (model prog w) A (compareOp .Eq (.int (i : Int) t) (.int 0 u)) Q E s := eq_zero (decide_eq_false (Nat.ne_of_gt e)) h
end
theorem binds_cap1 {h₀ : Heap} {L : Addr} {m : Str → Option Value} {s : Shared} {K : Frag} {fd : FuncData} {a : Value} {T : Addr} {o : Obj} {n : Nat} {p1 p2 : Pos} {ds : List Expr} (F : Fr h₀ L s.heap m) (X₀ : K.In h₀)
    (hp : fd.params = { posonlyargs := [], args := [⟨Str.ofString "s", none, p1⟩, ⟨Str.ofString "sep", none, p2⟩], vararg := none, kwonlyargs := [], kw_defaults := [], kwarg := none, defaults := ds })
    (hd : fd.defaults = .ref T) (ho : K.lookup T = some o) (hs : o.data = .seq #[.none] n) : BindsTo s fd ⟨[a], []⟩ [(Str.ofString "s", a), (Str.ofString "sep", .none)] := by
  obtain ⟨name, qual, params, body, scope, globals, closure, defaults, kwd, doc, pm, ann, code, ct, bi⟩ := fd
  dsimp only at hp hd
  subst hp hd
  exact BindsTo.of_defaults rfl ((X₀.keeps F.keep) _ _ ho) hs rfl rfl
theorem binds_cap2 {h₀ : Heap} {L : Addr} {m : Str → Option Value} {s : Shared} {K : Frag} {fd : FuncData} {a b : Value} {T : Addr} {o : Obj} {n : Nat} {p1 p2 : Pos} {ds : List Expr} (F : Fr h₀ L s.heap m) (X₀ : K.In h₀)
    (hp : fd.params = { posonlyargs := [], args := [⟨Str.ofString "s", none, p1⟩, ⟨Str.ofString "sep", none, p2⟩], vararg := none, kwonlyargs := [], kw_defaults := [], kwarg := none, defaults := ds })
    (hd : fd.defaults = .ref T) (ho : K.lookup T = some o) (hs : o.data = .seq #[.none] n) : BindsTo s fd ⟨[a, b], []⟩ [(Str.ofString "s", a), (Str.ofString "sep", b)] := by
  obtain ⟨name, qual, params, body, scope, globals, closure, defaults, kwd, doc, pm, ann, code, ct, bi⟩ := fd
  dsimp only at hp hd
  subst hp hd
  exact BindsTo.of_defaults rfl ((X₀.keeps F.keep) _ _ ho) hs rfl rfl
theorem binds_word {s : Shared} {fd : FuncData} {a : Value} {p1 : Pos}
    (hp : fd.params = { posonlyargs := [], args := [⟨Str.ofString "word", none, p1⟩], vararg := none, kwonlyargs := [], kw_defaults := [], kwarg := none, defaults := [] }) (hd : fd.defaults = .none) : BindsTo s fd ⟨[a], []⟩ [(Str.ofString "word", a)] := by
  obtain ⟨name, qual, params, body, scope, globals, closure, defaults, kwd, doc, pm, ann, code, ct, bi⟩ := fd
  dsimp only at hp hd
  subst hp hd
  exact BindsTo.of_eq rfl
end Mine
end LinesPart
section LawPart
open PySem PySem.W PyProof.Rows PySem.Calls PySem.Builtin PySem.Builtin.Str
namespace Mine
def strokeOf (x : Str) : Str := Txt.join stroke ((Txt.split x stroke).map Txt.capitalize)
theorem map_sg_inj {a b : List Str} (h : a.map sg = b.map sg) : a = b := by
  have h2 := congrArg (List.map fun l : List Nat => (⟨l.toArray⟩ : Str)) h
  have e : ∀ l : List Str, (l.map sg).map (fun l : List Nat => (⟨l.toArray⟩ : Str)) = l := fun l => by
    rw [List.map_map]
    conv => rhs; rw [← List.map_id l]
    exact List.map_congr_left fun x _ => str_ext (by simp)
  rwa [e, e] at h2
theorem sg_lw (x : Str) : sg (lw x) = lwL (sg x) := by
  show (⟨(lwL (sg x)).toArray⟩ : Str).cps.toList = _
  simp
theorem lw_length (x : Str) : (lw x).length = x.length := by
  rw [← sg_len, sg_lw, lwL_length, sg_len]
theorem alph_in : ∀ c ∈ alph, c ∈ alph2 ∧ lowS c ∈ alph2 ∧ upS (lowS c) ∈ alph2 ∧ lowS (lowS c) = lowS c ∧ upS (lowS (upS (lowS c))) = upS (lowS c) ∧
    (Unicode.isSpace c = false → Unicode.isSpace (lowS c) = false ∧ Unicode.isSpace (upS (lowS c)) = false) ∧ ((c == 45) = false → (lowS c == 45) = false ∧ (upS (lowS c) == 45) = false) := by decide +kernel
theorem alph_map : ∀ c ∈ alph, Unicode.isSpace c = ((if (if c = 9 then 32 else c) = 10 then 32 else (if c = 9 then 32 else c)) == 32) ∧
    (Unicode.isSpace c = false → (if (if c = 9 then 32 else c) = 10 then 32 else (if c = 9 then 32 else c)) = c) := by decide +kernel
theorem space32 : Unicode.isSpace 32 = true := by decide +kernel
theorem lwL_mem {l : List Nat} (hl : ∀ c ∈ l, c ∈ alph) : ∀ k ∈ lwL l, ∃ c ∈ l, k = lowS c ∨ k = upS (lowS c) := by
  cases l with
  | nil => intro k hk; cases hk
  | cons a r =>
    intro k hk
    rcases List.mem_cons.mp hk with rfl | hk
    · exact ⟨a, List.mem_cons_self, .inr rfl⟩
    · obtain ⟨c, hc, rfl⟩ := List.mem_map.mp hk
      exact ⟨c, List.mem_cons_of_mem _ hc, .inl rfl⟩
theorem lw_alph2 {x : Str} (hx : TextOk x) : ∀ c ∈ sg (lw x), c ∈ alph2 := by
  intro k hk
  rw [sg_lw] at hk
  obtain ⟨c, hc, e⟩ := lwL_mem hx.signs k hk
  have h := alph_in c (hx.signs c hc)
  rcases e with rfl | rfl
  · exact h.2.1
  · exact h.2.2.1
theorem cap_lw {x : Str} (hx : TextOk x) : Txt.capitalize x = lw x := cap_eq x fun c hc => (alph_in c (hx.signs c hc)).1
theorem lwL_twice {l : List Nat} (hl : ∀ c ∈ l, c ∈ alph) : lwL (lwL l) = lwL l := by
  cases l with
  | nil => rfl
  | cons a r =>
    have ha := (alph_in a (hl a List.mem_cons_self)).2.2.2.2.1
    show upS (lowS (upS (lowS a))) :: (r.map lowS).map lowS = upS (lowS a) :: r.map lowS
    rw [ha, List.map_map]
    congr 1
    exact List.map_congr_left fun c hc => (alph_in c (hl c (List.mem_cons_of_mem _ hc))).2.2.2.1
theorem cap_twice {x : Str} (hx : TextOk x) : Txt.capitalize (lw x) = lw x := by
  rw [cap_eq (lw x) (lw_alph2 hx)]
  apply str_ext
  show sg (lw (lw x)) = sg (lw x)
  rw [sg_lw, sg_lw, lwL_twice hx.signs]
theorem isEmpty_sg (v : Str) : (!(sg v).isEmpty) = decide (v ≠ Str.ofString "") := by
  rw [e_none]
  by_cases h : v = ⟨#[]⟩
  · subst h; rfl
  · rw [decide_eq_true h]
    have : sg v ≠ [] := fun e => h (str_ext e)
    revert this
    generalize sg v = l
    intro this
    cases l with
    | nil => exact absurd rfl this
    | cons a r => rfl
theorem filter_sg (l : List Str) : (l.filter fun v => decide (v ≠ Str.ofString "")).map sg = (l.map sg).filter fun q => !q.isEmpty := by
  rw [List.filter_map]
  congr 1
  exact List.filter_congr fun v _ => (isEmpty_sg v).symm
theorem sg_plain (x : Str) : sg (plainOf x) = (sg x).map fun c => if (if c = 9 then 32 else c) = 10 then 32 else (if c = 9 then 32 else c) := by
  unfold plainOf
  rw [e_tab, e_row, e_blank, replace_eq, replace_eq, List.map_map]
  rfl
theorem words_plain {x : Str} (hx : TextOk x) : Txt.words x = wordsOf' x := by
  apply map_sg_inj
  rw [words_eq]
  unfold wordsOf'
  rw [filter_sg]
  show _ = List.filter _ ((Txt.split (plainOf x) (Str.ofString " ")).map sg)
  rw [e_blank, split_eq, sg_plain, splitP_map (· == 32) Unicode.isSpace _ (sg x) (fun k hk => (alph_map k (hx.signs k hk)).1) fun k hk => (alph_map k (hx.signs k hk)).2]
  rfl
theorem words_ok {x v : Str} (hx : TextOk x) (hv : v ∈ wordsOf' x) : TextOk v ∧ v ≠ Str.ofString "" ∧ ∀ k ∈ sg v, Unicode.isSpace k = false := by
  have h1 := List.mem_filter.mp hv
  have h2 : v ∈ Txt.split (plainOf x) ⟨#[32]⟩ := by rw [← e_blank]; exact h1.1
  refine ⟨split_ok (plain_ok hx) h2, of_decide_eq_true h1.2, fun k hk => ?_⟩
  rw [← words_plain hx] at hv
  have h3 : sg v ∈ wordsL Unicode.isSpace (sg x) := by rw [← words_eq]; exact List.mem_map_of_mem hv
  exact (splitP_mem _ _ _ (List.mem_filter.mp h3).1 k hk).2
theorem words_count {x : Str} (hx : TextOk x) : (wordsOf' x).length ≤ 65 := by
  have h1 := split_le (plainOf x) blank
  have h2 := (plain_ok hx).len
  have h3 : (wordsOf' x).length ≤ (Txt.split (plainOf x) blank).length := List.length_filter_le _ _
  omega
theorem cap_words {x : Str} (hx : TextOk x) : (Txt.words x).map Txt.capitalize = (wordsOf' x).map lw := by
  rw [words_plain hx]
  exact List.map_congr_left fun v hv => cap_lw (words_ok hx hv).1
theorem joinOk_small {sep : Str} {l : List Str} (hn : l.length ≤ 65) (hl : ∀ y ∈ l, y.length ≤ 63) (hs : sep.length ≤ 1) : JoinOk sep l = true := by
  unfold JoinOk
  rw [StrLaws.joinFits (B := 63) hl, Bool.not_false]
  have h1 : l.length * 63 ≤ 65 * 63 := Nat.mul_le_mul_right _ hn
  have h2 : l.length * sep.length ≤ 65 * 1 := Nat.mul_le_mul hn hs
  omega
theorem join_small {sep : Str} {l : List Str} (hn : l.length ≤ 65) (hl : ∀ y ∈ l, y.length ≤ 63) (hs : sep.length ≤ 1) : (Txt.join sep l).length ≤ 5000 := by
  have h := StrLaws.join_length_le sep l
  have h0 := StrLaws.sumLen_le l hl
  have h1 : l.length * 63 ≤ 65 * 63 := Nat.mul_le_mul_right _ hn
  have h2 : l.length * sep.length ≤ 65 * 1 := Nat.mul_le_mul hn hs
  show (glued sep l).length ≤ 5000
  rw [StrLaws.glued_eq_join]
  omega
theorem len_blank : (Str.ofString " ").length ≤ 1 := by decide +kernel
theorem len_stroke : (Str.ofString "-").length ≤ 1 := by decide +kernel
theorem lw_words_small {x : Str} (hx : TextOk x) : ∀ y ∈ (wordsOf' x).map lw, y.length ≤ 63 := fun y hy => by
  obtain ⟨v, hv, rfl⟩ := List.mem_map.mp hy
  rw [lw_length]; exact (words_ok hx hv).1.len
theorem due_joinOk {x : Str} (hx : TextOk x) : JoinOk (Str.ofString " ") ((wordsOf' x).map lw) = true :=
  joinOk_small (by rw [List.length_map]; exact words_count hx) (lw_words_small hx) len_blank
theorem due_len {x : Str} (hx : TextOk x) : (dueOf x).length ≤ 5000 :=
  join_small (by rw [List.length_map]; exact words_count hx) (lw_words_small hx) len_blank
theorem words_due {x : Str} (hx : TextOk x) : Txt.words (dueOf x) = (wordsOf' x).map lw := by
  apply map_sg_inj
  rw [words_eq]
  unfold dueOf
  rw [sg_txtjoin]
  show wordsL Unicode.isSpace (joinL (sg (Str.ofString " ")) _) = _
  rw [e_blank]
  show wordsL Unicode.isSpace (joinL [32] _) = _
  have hfree : ∀ q ∈ ((wordsOf' x).map lw).map sg, ∀ k ∈ q, Unicode.isSpace k = false := by
    intro q hq k hk
    obtain ⟨y, hy, rfl⟩ := List.mem_map.mp hq
    obtain ⟨v, hv, rfl⟩ := List.mem_map.mp hy
    have hw := words_ok hx hv
    rw [sg_lw] at hk
    obtain ⟨c, hc, e⟩ := lwL_mem hw.1.signs k hk
    have h := (alph_in c (hw.1.signs c hc)).2.2.2.2.2.1 (hw.2.2 c hc)
    rcases e with rfl | rfl
    · exact h.1
    · exact h.2
  have hne : ∀ q ∈ ((wordsOf' x).map lw).map sg, (!q.isEmpty) = true := by
    intro q hq
    obtain ⟨y, hy, rfl⟩ := List.mem_map.mp hq
    obtain ⟨v, hv, rfl⟩ := List.mem_map.mp hy
    have hw := (words_ok hx hv).2.1
    rw [isEmpty_sg]
    refine decide_eq_true fun e => hw ?_
    have e2 : v.length = 0 := by rw [← lw_length, e]; decide +kernel
    apply str_ext
    rw [e_none]
    exact List.eq_nil_of_length_eq_zero (by rw [← e2]; exact sg_len v)
  generalize ((wordsOf' x).map lw).map sg = parts at hfree hne
  unfold wordsL
  cases parts with
  | nil => rfl
  | cons a r =>
    rw [split_join Unicode.isSpace 32 space32 (a :: r) (by simp) hfree]
    exact List.filter_eq_self.mpr hne
theorem cap_words_due {x : Str} (hx : TextOk x) : (Txt.words (dueOf x)).map Txt.capitalize = (wordsOf' x).map lw := by
  rw [words_due hx, List.map_map]
  exact List.map_congr_left fun v hv => cap_twice (words_ok hx hv).1
theorem parts_ok {x p : Str} (hx : TextOk x) (h : p ∈ Txt.split x (Str.ofString "-")) : TextOk p ∧ ∀ k ∈ sg p, (k == 45) = false := by
  rw [e_stroke] at h
  refine ⟨split_ok hx h, fun k hk => ?_⟩
  have := StrLaws.split_free x 45 p h
  exact beq_eq_false_iff_ne.mpr fun e => this (e ▸ hk)
theorem cap_parts {x : Str} (hx : TextOk x) : (Txt.split x (Str.ofString "-")).map Txt.capitalize = (Txt.split x (Str.ofString "-")).map lw :=
  List.map_congr_left fun p hp => cap_lw (parts_ok hx hp).1
theorem parts_count {x : Str} (hx : TextOk x) : (Txt.split x (Str.ofString "-")).length ≤ 65 := by
  have h1 := split_le x (Str.ofString "-")
  have h2 := hx.len
  omega
theorem lw_parts_small {x : Str} (hx : TextOk x) : ∀ y ∈ (Txt.split x (Str.ofString "-")).map lw, y.length ≤ 63 := fun y hy => by
  obtain ⟨v, hv, rfl⟩ := List.mem_map.mp hy
  rw [lw_length]; exact (parts_ok hx hv).1.len
theorem stroke_joinOk {x : Str} (hx : TextOk x) : JoinOk (Str.ofString "-") ((Txt.split x (Str.ofString "-")).map lw) = true :=
  joinOk_small (by rw [List.length_map]; exact parts_count hx) (lw_parts_small hx) len_stroke
theorem stroke_eq {x : Str} (hx : TextOk x) : Txt.join (Str.ofString "-") ((Txt.split x (Str.ofString "-")).map lw) = strokeOf x := by
  unfold strokeOf
  rw [cap_parts hx]
theorem stroke_len {x : Str} (hx : TextOk x) : (strokeOf x).length ≤ 5000 := by
  rw [← stroke_eq hx]
  exact join_small (by rw [List.length_map]; exact parts_count hx) (lw_parts_small hx) len_stroke
theorem split_stroke {x : Str} (hx : TextOk x) : Txt.split (strokeOf x) (Str.ofString "-") = (Txt.split x (Str.ofString "-")).map lw := by
  apply map_sg_inj
  rw [← stroke_eq hx]
  have hfree : ∀ q ∈ ((Txt.split x (Str.ofString "-")).map lw).map sg, ∀ k ∈ q, (k == 45) = false := by
    intro q hq k hk
    obtain ⟨y, hy, rfl⟩ := List.mem_map.mp hq
    obtain ⟨v, hv, rfl⟩ := List.mem_map.mp hy
    have hw := parts_ok hx hv
    rw [sg_lw] at hk
    obtain ⟨c, hc, e⟩ := lwL_mem hw.1.signs k hk
    have h := (alph_in c (hw.1.signs c hc)).2.2.2.2.2.2 (hw.2 c hc)
    rcases e with rfl | rfl
    · exact h.1
    · exact h.2
  have hne : ((Txt.split x (Str.ofString "-")).map lw).map sg ≠ [] := by
    intro h
    rw [List.map_eq_nil_iff, List.map_eq_nil_iff] at h
    have := split_pos x (Str.ofString "-")
    rw [h] at this
    exact absurd this (by decide)
  have e : ∀ y : Str, (Txt.split y (Str.ofString "-")).map sg = splitP (· == 45) (sg y) := fun y => by rw [e_stroke]; exact split_eq y 45
  rw [e, sg_txtjoin, show sg (Str.ofString "-") = [45] by rw [e_stroke]]
  exact split_join (· == 45) 45 rfl _ hne hfree
theorem cap_parts_twice {x : Str} (hx : TextOk x) : (Txt.split (strokeOf x) (Str.ofString "-")).map Txt.capitalize = (Txt.split x (Str.ofString "-")).map lw := by
  rw [split_stroke hx, List.map_map]
  exact List.map_congr_left fun v hv => cap_twice (parts_ok hx hv).1
section
variable {prog : Program} {w : World} {A : Around} {E : Value → Shared → Prop} {h₀ : Heap} {L : Addr} {m : Str → Option Value} {s : Shared} {news : List (Addr × Obj)} {t : Tok} {z : Addr} {vs : List (Str × Tok)} {x : Str} {Q : Value → Shared → Prop}
theorem join_due {D : Addr} {ys : List Value} (hx : TextOk x) (hl : s.heap.IsList D ys.toArray) (hs : StrsAre ys ((wordsOf' x).map lw)) (N : News h₀ L s.heap news) (hq : ∀ t' k, News h₀ L s.heap [] → Q (.str (dueOf x) t') { s with toks := k }) :
    wpAny (model prog w) A (call (.builtin "str.join") [.str (Str.ofString " ") t, .ref D]) Q E s := join_strs hl hs (due_joinOk hx) fun t' k => hq t' k fun _ hp => nomatch hp
theorem join_parts {D : Addr} {ys : List Value} (hx : TextOk x) (hl : s.heap.IsList D ys.toArray) (hs : StrsAre ys ((Txt.split x (Str.ofString "-")).map lw)) (N : News h₀ L s.heap news) (hq : ∀ t' k, News h₀ L s.heap [] → Q (.str (strokeOf x) t') { s with toks := k }) :
    wpAny (model prog w) A (call (.builtin "str.join") [.str (Str.ofString "-") t, .ref D]) Q E s := join_strs hl hs (stroke_joinOk hx) (by rw [stroke_eq hx]; exact fun t' k => hq t' k fun _ hp => nomatch hp)
theorem big_of {y : Str} (h : y.length ≤ 63) : y.length ≤ 5592405 := Nat.le_trans h (by decide)
theorem few_of {n : Nat} (h : n ≤ 65) : n ≤ sizeLine := by rw [sizeLine_eq]; omega
theorem cap_A (hx : TextOk x) (hh : A.handled = none) (F : Fr h₀ L s.heap m) (N : News h₀ L s.heap news) (M : MapAt h₀ L news s.heap z vs) (hv : vs.map (·.1) = Txt.words x)
    (h : ∀ h' t' k, Fr h₀ L h' m → News h₀ L h' news → Q (.str (dueOf x) t') { s with heap := h', toks := k }) :
    wpAny (model prog w) A (call (.builtin "str.join") [.str (Str.ofString " ") t, .ref z]) Q E s := by
  have e : Txt.join (Str.ofString " ") ((Txt.words x).map Txt.capitalize) = dueOf x := by rw [cap_words hx]; rfl
  refine join_K hh F N M hv (fun y hy => ?_) ?_ (by rw [cap_words hx]; exact due_joinOk hx) (by rw [e]; exact h)
  · rw [words_plain hx] at hy; exact big_of (words_ok hx hy).1.len
  · rw [words_plain hx]; exact few_of (words_count hx)
theorem cap_B (hx : TextOk x) (hh : A.handled = none) (F : Fr h₀ L s.heap m) (N : News h₀ L s.heap news) (M : MapAt h₀ L news s.heap z vs) (hv : vs.map (·.1) = Txt.words (dueOf x))
    (h : ∀ h' t' k, Fr h₀ L h' m → News h₀ L h' news → Q (.str (dueOf x) t') { s with heap := h', toks := k }) :
    wpAny (model prog w) A (call (.builtin "str.join") [.str (Str.ofString " ") t, .ref z]) Q E s := by
  have e : Txt.join (Str.ofString " ") ((Txt.words (dueOf x)).map Txt.capitalize) = dueOf x := by rw [cap_words_due hx]; rfl
  refine join_K hh F N M hv (fun y hy => ?_) ?_ (by rw [cap_words_due hx]; exact due_joinOk hx) (by rw [e]; exact h)
  · rw [words_due hx] at hy; exact big_of (lw_words_small hx y hy)
  · rw [words_due hx, List.length_map]; exact few_of (words_count hx)
theorem cap_C (hx : TextOk x) (hh : A.handled = none) (F : Fr h₀ L s.heap m) (N : News h₀ L s.heap news) (M : MapAt h₀ L news s.heap z vs) (hv : vs.map (·.1) = Txt.split x (Str.ofString "-"))
    (h : ∀ h' t' k, Fr h₀ L h' m → News h₀ L h' news → Q (.str (strokeOf x) t') { s with heap := h', toks := k }) :
    wpAny (model prog w) A (call (.builtin "str.join") [.str (Str.ofString "-") t, .ref z]) Q E s := by
  refine join_K hh F N M hv (fun y hy => ?_) ?_ (by rw [cap_parts hx]; exact stroke_joinOk hx) h
  · exact big_of (parts_ok hx hy).1.len
  · exact few_of (parts_count hx)
theorem cap_D (hx : TextOk x) (hh : A.handled = none) (F : Fr h₀ L s.heap m) (N : News h₀ L s.heap news) (M : MapAt h₀ L news s.heap z vs) (hv : vs.map (·.1) = Txt.split (strokeOf x) (Str.ofString "-"))
    (h : ∀ h' t' k, Fr h₀ L h' m → News h₀ L h' news → Q (.str (strokeOf x) t') { s with heap := h', toks := k }) :
    wpAny (model prog w) A (call (.builtin "str.join") [.str (Str.ofString "-") t, .ref z]) Q E s := by
  have e : Txt.join (Str.ofString "-") ((Txt.split (strokeOf x) (Str.ofString "-")).map Txt.capitalize) = strokeOf x := by rw [cap_parts_twice hx]; exact stroke_eq hx
  refine join_K hh F N M hv (fun y hy => ?_) ?_ (by rw [cap_parts_twice hx]; exact stroke_joinOk hx) (by rw [e]; exact h)
  · rw [split_stroke hx] at hy; exact big_of (lw_parts_small hx y hy)
  · rw [split_stroke hx, List.length_map]; exact few_of (parts_count hx)
theorem two_of {y : Str} (h : y.length ≤ 5000) : y.length + 2 ≤ sizeLine := by rw [sizeLine_eq]; omega
theorem ne_self {a : Str} {u : Tok} (h : Q (.bool false) s) : wpAny (model prog w) A (compareOp .NotEq (.str a t) (.str a u)) Q E s := by
  refine ne_str ?_
  have : (a != a) = false := by simp
  rw [this]; exact h
theorem eq_self {a : Str} {u : Tok} (h : Q (.bool true) s) : wpAny (model prog w) A (compareOp .Eq (.str a t) (.str a u)) Q E s := by
  refine eq_str ?_
  have : (a == a) = true := by simp
  rw [this]; exact h
end
theorem ne_of_bne {a b : Str} (h : (a != b) = true) : a ≠ b := bne_iff_ne.mp h
theorem eq_of_bne {a b : Str} (h : (a != b) = false) : a = b := by simpa using h
end Mine
end LawPart
section AttrPart
open PySem PySem.W PyProof.Rows PySem.Calls
namespace Mine
section
variable {prog : Program} {w : World} {A : Around} {E : Value → Shared → Prop} {s : Shared} {K : Frag} {h₀ : Heap} {L : Addr} {m : Str → Option Value}
theorem attr_cap {expr : Bool} {Q : Value → Shared → Prop} (F : Fr h₀ L s.heap m) (X₀ : K.In h₀)
    (e : findCls K (.type "str") (.type "type") (Str.ofString "capitalize") = some (.val (.builtin "str.capitalize")))
    (h : ∀ u, Q (.builtin "str.capitalize") { s with toks := u }) : wpAny (model prog w) A (getAttr (.type "str") (Str.ofString "capitalize") expr) Q E s := by
  have X := X₀.keeps F.keep
  have hstub : opaqueClassAbove (.type "str") = pure none := by unfold opaqueClassAbove; dsimp only; rw [show Manifest.isStub "str" = false by decide +kernel]; rfl
  have ht : typeOf (.type "str") = pure (.type "type") := by first | rfl | kernel_rfl
  have L0 : Looks (model prog w) s.heap (typeOf (.type "str")) (.type "type") := Looks.of_pure ht
  have LO : Looks (model prog w) s.heap (opaqueClassAbove (.type "str")) none := Looks.of_pure hstub
  have hg : findIn K (.type "type") "__getattribute__" = some (some (.builtin "type.__getattribute__")) := type_tga
  refine cls_open X LO L0 hg (looks_hook X (r := none) (by rfl)) (by show subIn K _ _ = _; rfl) e ?_
  show wpAny _ _ (ret (.builtin "str.capitalize")) _ _ _
  exact wpAny_pure (handed_on rfl (h _))
end
end Mine
end AttrPart
open PySem PySem.W PyProof.Rows Mine
local macro_rules | `(tactic| walk_at "execs cons") => `(tactic| (k_here; (with_reducible show wpAny _ _ (execs (Stmt.Assign [Expr.Name _ _] (Expr.Call _ _ _ _) _ :: _) _) _ _ _); refine execs_cons_pos (by first | assumption | ((try dsimp only); omega) | (simp only [List.length_cons, List.length_nil]; omega)) ?_; (try dsimp only)))
local macro_rules | `(tactic| walk_at "forall") => `(tactic| (intro posH; dsimp only at posH))
local macro_rules | `(tactic| walk_at "call builtin:str.join") => `(tactic| (k_here; (with_reducible rename CarriedAll _ (List.map _ _) => ktC); refine join_text (by first | assumption | is_list | exact News.isList (by k_asm) (by k_mem)) ktC (by omega) ?_; intro x' t' k' hx'; clear ktC))
local macro_rules | `(tactic| walk_at "call builtin:str.join") => `(tactic| (k_here; k_dflt (first
  | (refine' cap_A ?jx ?jh ?jF ?jN ?jM ?jv ?_; (case jF => k_asm); (case jN => k_asm); (case jM => assumption); (case jv => assumption); (case jx => assumption); (case jh => rfl); intro h' t' k' F' N'; (try dsimp only))
  | (refine' cap_B ?jx ?jh ?jF ?jN ?jM ?jv ?_; (case jF => k_asm); (case jN => k_asm); (case jM => assumption); (case jv => assumption); (case jx => assumption); (case jh => rfl); intro h' t' k' F' N'; (try dsimp only))
  | (refine' cap_C ?jx ?jh ?jF ?jN ?jM ?jv ?_; (case jF => k_asm); (case jN => k_asm); (case jM => assumption); (case jv => assumption); (case jx => assumption); (case jh => rfl); intro h' t' k' F' N'; (try dsimp only))
  | (refine' cap_D ?jx ?jh ?jF ?jN ?jM ?jv ?_; (case jF => k_asm); (case jN => k_asm); (case jM => assumption); (case jv => assumption); (case jx => assumption); (case jh => rfl); intro h' t' k' F' N'; (try dsimp only))
  | (refine' join_due ?jx ?jl ?js ?jN ?_; (case jl => exact News.isList (by k_asm) (by k_mem)); (case jN => k_asm); (case js => assumption); (case jx => assumption); intro t' k' N')
  | (refine' join_parts ?jx ?jl ?js ?jN ?_; (case jl => exact News.isList (by k_asm) (by k_mem)); (case jN => k_asm); (case js => assumption); (case jx => assumption); intro t' k' N'))))
local macro_rules | `(tactic| walk_at "call type:map") => `(tactic| (k_here; k_dflt (refine' map_K ?mF ?mN ?_; (case mF => k_asm); (case mN => k_asm); intro h' z' F' N' M'; (try dsimp only))))
local macro_rules | `(tactic| walk_at "compareOp NotEq str str") => `(tactic| (k_here; with_reducible first | refine ne_self ?_ | (refine' ne_cases ?_ ?_ <;> intro ne0')))
local macro_rules | `(tactic| walk_at "compareOp Eq str str") => `(tactic| (k_here; with_reducible refine eq_self ?_))
local macro_rules | `(tactic| walk_at "WEl") => `(tactic| (refine ⟨rfl, ?wc, _, rfl⟩; (case wc => first | exact trivial | assumption)))
local macro_rules | `(tactic| walk_at "WNo") => `(tactic| exact ⟨rfl, by assumption⟩)
local macro_rules | `(tactic| walk_at "call builtin:str.replace") => `(tactic| (k_here; k_dflt (refine' replace_pos ?rqp ?rqu ?rqv ?rquv ?rqyz ?rqhx ?rqhz ?_; (case rqp => exact Nat.succ_le_succ (Nat.zero_le _)); (case rqu => first | exact Nat.succ_ne_zero _ | exact Nat.ne_of_gt (by assumption)); (case rqv => exact Nat.succ_ne_zero _); (case rquv => exact Nat.ne_of_lt (Nat.lt_succ_self _)); (case rqyz => decide +kernel); (case rqhx => first | exact TextOk.mega (by assumption) | (rw [e_tab, e_blank]; exact TextOk.mega (replace_ok (by assumption) _))); (case rqhz => decide +kernel); intro t' k' pos')))
local macro_rules | `(tactic| walk_at "call builtin:str.split") => `(tactic| (k_here; k_dflt ((with_reducible show wpAny _ _ (call (Value.builtin "str.split") [Value.str _ _, Value.str _ _]) _ _ _); refine' splitN1 ?sF ?sN ?sy ?_ ?sz; (case sF => k_asm); (case sN => k_asm); (case sy => decide +kernel); (case sz => first | exact TextOk.two (by assumption) | exact TextOk.two (plain_ok (by assumption)) | exact two_of (stroke_len (by assumption))); intro l' h' k' e' F' N'; (try dsimp only at F'); (try dsimp only at N'); (try dsimp only))))
local macro_rules | `(tactic| walk_at "call builtin:str.split") => `(tactic| (k_here; k_dflt ((with_reducible show wpAny _ _ (call (Value.builtin "str.split") [Value.str _ _, Value.none]) _ _ _); refine' splitN0None ?sF ?sN ?_ ?sz; (case sF => k_asm); (case sN => k_asm); (case sz => first | exact TextOk.two (by assumption) | exact two_of (due_len (by assumption))); intro l' h' k' e' s1' s2' s3' F' N'; clear s1' s2' s3'; (try dsimp only at F'); (try dsimp only at N'); (try dsimp only))))
local macro_rules | `(tactic| walk_at "CompSrcT") => `(tactic| (k_here; k_dflt (refine' srcT_words ?ch ?cF ?cN ?cm ?ce ?cX ?cy (fun word' t' I' oI' C' oC' D' m' ys' h' tk' E' hw' hC' hx' F' N' off' ne' => ?_) (fun g' ys' hys' => ?_); (case ch => rfl); (case cF => k_asm); (case cN => k_asm); (case cm => k_mem); (case ce => assumption); (case cX => first | assumption | exact plain_ok (by assumption)); (case cy => exact e_blank); (all_goals (try simp only [LCg.Off3, and_true] at off')); (all_goals (try dsimp only)))))
local macro_rules | `(tactic| walk_at "CompSrc") => `(tactic| (k_here; k_dflt (refine' src_words ?ch ?cF ?cN ?cm ?ce ?cX ?cy (fun word' t' I' oI' C' oC' D' m' ys' h' tk' E' hw' hC' hx' F' N' off' ne' => ?_) (fun g' ys' hys' => ?_); (case ch => rfl); (case cF => k_asm); (case cN => k_asm); (case cm => k_mem); (case ce => assumption); (case cX => first | assumption | exact plain_ok (by assumption)); (case cy => exact e_stroke); (all_goals (try simp only [LCg.Off3, and_true] at off')); (all_goals (try dsimp only)))))
local macro_rules | `(tactic| walk_at "eval ListComp") => `(tactic| (k_here; (with_reducible show wpAny _ _ (eval (Expr.ListComp _ [⟨_, _, [_], _⟩] _ _) _) _ _ _); k_dflt (refine LCt.ListComp_T (F₀ := by k_asm) (by with_unfolding_all rfl) (by decide) (by rfl) (by decide) (by rfl) ?_)))
local macro_rules | `(tactic| walk_at "eval ListComp") => `(tactic| (k_here; (with_reducible show wpAny _ _ (eval (Expr.ListComp (Expr.Call _ _ _ _) [⟨_, _, [], _⟩] _ _) _) _ _ _); k_dflt (refine LCg.ListComp_U (F₀ := by k_asm) (by with_unfolding_all rfl) (by decide) (by rfl) (by decide) (by rfl) ?_)))
local macro_rules | `(tactic| walk_at "call builtin:len") => `(tactic| (k_here; k_dflt ((with_reducible show wpAny _ _ (call (Value.builtin "len") [Value.str _ _]) _ _ _); refine SBL.len (TextOk.h63 (by assumption)) ?_)))
local macro_rules | `(tactic| walk_at "pyIter ref") => `(tactic| (k_here; k_dflt ((with_reducible show wpAny _ _ (pyIter (Value.ref _)) (fun it s₂ => LoopAtV _ _ _ _ _ _ _ _ _ it s₂) _ _); refine' loop_word ?lb ?lw ?lh ?lr ?lF ?lN ?lk (fun i' a' b' tk' tf' u' h' tk2' own' hi' ht' hit' hnx' hb1' hlen' hoff' F' N' => ?_) (fun u' t' h' tk' F' N' => ?_); (case lr => assumption); (case lb => rfl); (case lw => assumption); (case lh => rfl); (case lF => k_asm); (case lN => k_asm); (case lk => rfl); (all_goals (try (unfold TurnIs at ht'; rcases ht' with ⟨hz', ha', hb'⟩ | ⟨hz', ha', hb'⟩ | ⟨hz', ha', hb'⟩ | ⟨hz', ha', hb'⟩ | ⟨hz', ⟨hg', ha'⟩, hb'⟩ | ⟨hz', ha', hb'⟩ | ⟨hz', ha', hb'⟩ | ⟨hz', ha', hb'⟩ | ⟨hz', ha', hb'⟩ | ⟨hz', ⟨hg', ha'⟩, hb'⟩ <;> (try subst ha') <;> subst hb'))))))
local macro_rules | `(tactic| walk_at "subscriptTail Name Name str int") => `(tactic| (k_here; (with_reducible show wpAny _ _ (subscriptTail _ _ (Value.str _ _) (Value.int (Nat.cast _) _)) _ _ _); with_reducible refine item_word (by assumption) (by assumption) (by assumption) ?_))
local macro_rules | `(tactic| walk_at "subscriptTail Name Call str int") => `(tactic| (k_here; with_reducible first | refine item_lit i_S_0 l_S (by decide) (by decide) ?_ | refine item_lit i_G_0 l_G (by decide) (by decide) ?_ | refine item_lit i_G_1 l_G (by decide) (by decide) ?_ | refine item_lit i_S_2 l_S (by decide) (by decide) ?_ | refine item_lit i_G_2 l_G (by decide) (by decide) ?_))
local macro_rules | `(tactic| walk_at "compareOp In str str") => `(tactic| (k_here; with_reducible first | refine in_is c_G_a ?_ | refine in_is c_G_A ?_ | refine in_is c_G_b ?_ | refine in_is c_G_E ?_ | refine in_is c_S_a ?_ | refine in_is c_S_b ?_ | refine in_is c_S_e ?_ | refine in_is (b := false) (by assumption) ?_))
local macro_rules | `(tactic| walk_at "call builtin:str.index") => `(tactic| (k_here; with_reducible first | refine index_is (by k_dflt rfl) f_G_A (by decide) ?_ | refine index_is (by k_dflt rfl) f_G_E (by decide) ?_ | refine index_is (by k_dflt rfl) f_S_a (by decide) ?_ | refine index_is (by k_dflt rfl) f_S_b (by decide) ?_ | refine index_is (by k_dflt rfl) f_S_e (by decide) ?_))
local macro_rules | `(tactic| walk_at "binaryOp Add str str") => `(tactic| (k_here; with_reducible refine add_lw (by assumption) (by assumption) ?_; intro t' k'))
local macro_rules | `(tactic| walk_at "InvEndN") => `(tactic| (k_here; k_dflt (refine InvEndN.intro (by k_asm) (by k_asm) (lwJ_intro (by with_unfolding_all rfl) (by with_reducible assumption) (by (intro z h1 h2 h3; first | rfl | (simp [h1, h2, h3]; done) | (simp_all; done)))) (by rfl) (by (with_unfolding_all ((try simp only [List.nil_append, List.cons_append]); k_allIn))) (by (intro p hp; k_ownIn)))))
local macro_rules | `(tactic| walk_at "compareOp Eq int int") => `(tactic| (k_here; with_reducible first | refine eq_zero_t (by assumption) ?_ | refine eq_zero_f (by assumption) ?_))
local macro_rules | `(tactic| walk_at "getAttr") => `(tactic| (k_here; (with_reducible show wpAny _ _ (getAttr (Value.type "str") (PySem.Str.ofString "capitalize") _) _ _ _); k_dflt (refine' attr_cap ?aF ?aX ?ae ?_; (case aF => k_asm); (case aX => k_asm); (case ae => k_is); intro tk'; (try dsimp only))))
local macro_rules | `(tactic| walk_at "call ref") => `(tactic| (k_here; k_dflt ((refine wpAny_call ?_); (refine' code_def ?k1 ?k2 ?k3 ?k4 ?k5 ?kA ?kF ?kK ?k6 ?k7 ?k8 ?k9 ?kB ?_ ?c2 ?c3 ?c4 ?c5); (case kA => exact rfl); (case kF => exact rfl); (case kK => exact rfl); (case k1 => k_asm); (case k2 => k_asm); (case k3 => k_asm); (case k4 => k_asm); (case k5 => k_asm); (case k6 => k_is); (case k7 => k_is); (case k8 => k_room); (case k9 => first | (with_reducible refine' binds_word ?b1 ?b2; (case b1 => k_dflt (exact rfl)); (case b2 => k_dflt (exact rfl))) | (with_reducible refine' binds_cap1 ?bF ?b0 ?b1 ?b2 ?b3 ?b4; (case bF => k_dflt k_asm); (case b0 => k_dflt k_asm); (case b1 => k_dflt (exact rfl)); (case b2 => k_dflt (exact rfl)); (case b3 => k_dflt k_is); (case b4 => k_dflt (exact rfl))) | (with_reducible refine' binds_cap2 ?bF ?b0 ?b1 ?b2 ?b3 ?b4; (case bF => k_dflt k_asm); (case b0 => k_dflt k_asm); (case b1 => k_dflt (exact rfl)); (case b2 => k_dflt (exact rfl)); (case b3 => k_dflt k_is); (case b4 => k_dflt (exact rfl)))); (case c5 => decide); (case kB => exact locs rfl); (case c2 => exact rfl); (case c3 => exact rfl); (case c4 => exact rfl); k_whole; intro g' L' h' FG' F' N' B' X' T'; (try dsimp only); (try k_lift B'); (try k_fold))))
local macro_rules | `(tactic| walk_at "ite") => `(tactic| (k_closed; with_reducible first | refine ite_neg Bool.false_ne_true ?_ | refine ite_pos rfl ?_))
set_option maxRecDepth 100000 in
set_option maxHeartbeats 40000000 in
theorem PySem.Challenge.cw_xe0054_01_holds : PySem.Challenge.rw_xe0054_01.Holds := by
  open_k
