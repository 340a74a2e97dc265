import PyProof.Rows.All
import Wide.All
import OpenK.AllK
import Wide.FinOn
import Lean
import PySem.Challenge.RW_in0256_01
open PySem PySem.W PyProof.Rows
set_option Elab.async false
set_option maxRecDepth 100000
set_option linter.unusedVariables false
set_option linter.unusedSimpArgs false
set_option bootstrap.genMatcherCode false
set_option genSizeOf false
set_option genInjectivity false
set_option backward.match.sparseCases false
set_option tactic.hygienic false
namespace Mine
theorem wm {α : Type} {M A} {t : Sem α} {Q Q' : α → Shared → Prop} {E s} (h : wpAny M A t Q E s) (k : ∀ a s, Q a s → Q' a s) : wpAny M A t Q' E s := wpAny_mono h k fun _ _ e => e
theorem wb {α β : Type} {M A} {t : Sem α} {f : α → Sem β} {Q Q'} {E s} (h : wpAny M A t Q E s) (k : ∀ a s, Q a s → wpAny M A (f a) Q' E s) : wpAny M A (t >>= f) Q' E s := wpAny_bind (wm h k)
theorem wbp {α β : Type} {M A} {a : α} {f : α → Sem β} {Q} {E s} (h : wpAny M A (f a) Q E s) : wpAny M A (pure a >>= f) Q E s := wpAny_bind (wpAny_pure h)
theorem wbs {β : Type} {M A} {p : Pos} {f : Unit → Sem β} {Q} {E s} (h : wpAny M A (f ()) Q E s) : wpAny M A (standAt p >>= f) Q E s := wpAny_bind (wpAny_standAt h)
theorem wbe {α β : Type} {M A} {t : Sem α} {a : α} {f : α → Sem β} {Q} {E s} (e : t = pure a) (h : wpAny M A (f a) Q E s) : wpAny M A (t >>= f) Q E s := wpAny_bind (wpAny_of_eq e h)
theorem wbh {α β : Type} {M A} {vs} {t : Sem α} {f : α → Sem β} {Q} {E s} (h : wpAny M A t (fun a s' => wpAny M A (f a) Q E s') E s) : wpAny M A (holding vs t >>= f) Q E s := wpAny_bind (wpAny_holding h)
section
open PySem.Builtin PySem.Builtin.Re
theorem plainAttrs_pattern : PlainAttrs "re.Pattern" :=
  ⟨⟨"object.__getattribute__", by rw [typeLookup_type, builtinLookup_eq_fast]; kernel_rfl, by decide +kernel⟩, by rw [typeLookup_type, builtinLookup_eq_fast]; kernel_rfl⟩
theorem plainAttrs_match : PlainAttrs "re.Match" :=
  ⟨⟨"object.__getattribute__", by rw [typeLookup_type, builtinLookup_eq_fast]; kernel_rfl, by decide +kernel⟩, by rw [typeLookup_type, builtinLookup_eq_fast]; kernel_rfl⟩
theorem slot_sub : PySem.Slot "re.Pattern" "sub" "re.Pattern.sub" :=
  .of (owner := "re.Pattern") (n := "sub") (by rw [typeLookup_type, builtinLookup_eq_fast]; kernel_rfl) (by decide +kernel) (by decide +kernel) (by decide +kernel)
    (by first | exact .inl (by decide +kernel) | exact .inr (by decide +kernel)) (by rw [isSubtype_type]; kernel_rfl)
theorem slot_group : PySem.Slot "re.Match" "group" "re.Match.group" :=
  .of (owner := "re.Match") (n := "group") (by rw [typeLookup_type, builtinLookup_eq_fast]; kernel_rfl) (by decide +kernel) (by decide +kernel) (by decide +kernel)
    (by first | exact .inl (by decide +kernel) | exact .inr (by decide +kernel)) (by rw [isSubtype_type]; kernel_rfl)
theorem type_sub : typeOf (.builtin "re.Pattern.sub") = pure (.type "method_descriptor") := by first | rfl | kernel_rfl | (rw [typeOf]; kernel_rfl)
theorem type_group : typeOf (.builtin "re.Match.group") = pure (.type "method_descriptor") := by first | rfl | kernel_rfl | (rw [typeOf]; kernel_rfl)
theorem entry_sub : entryFor table "re.Pattern.sub" = some Builtin.«re.Pattern.sub» := entryFor_of_tree (by kernel_rfl)
theorem entry_subloop : entryFor table "re.Pattern.sub.loop" = some Builtin.«re.Pattern.sub.loop» := entryFor_of_tree (by kernel_rfl)
theorem entry_group : entryFor table "re.Match.group" = some Builtin.«re.Match.group» := entryFor_of_tree (by kernel_rfl)
theorem args_sub (a b c : Value) : argsOk "re.Pattern.sub" ⟨[a, b, c], []⟩ := by unfold argsOk; kernel_rfl
theorem args_group (a b : Value) : argsOk "re.Match.group" ⟨[a, b], []⟩ := by unfold argsOk; kernel_rfl

noncomputable def turns : Nat → Sre.M → Sre.M
  | 0, m => m
  | k + 1, m => let m' := m.runFor reTurnSteps; if m'.outcome.isSome then m' else turns k m'
section
variable {M : Model} {A : Around} {E : Value → Shared → Prop} {s : Shared}
theorem drive : ∀ (k n : Nat) (m : Sre.M) {Q : Sre.M → Shared → Prop}, k ≤ n → (turns k m).outcome.isSome = true → m.outcome.isSome = false → Q (turns k m) s → wpAny M A (reDrive n m) Q E s
  | 0, n, m, Q, _, h, h0, _ => by rw [show turns 0 m = m from rfl, h0] at h; cases h
  | k + 1, 0, m, Q, hk, _, _, _ => by omega
  | k + 1, n + 1, m, Q, hk, h, h0, hq => by
    unfold reDrive
    unfold turns at h hq
    cases e : (m.runFor reTurnSteps).outcome.isSome with
    | true =>
      simp only [e, if_true] at h hq ⊢
      exact wpAny_pure hq
    | false =>
      simp only [e, Bool.false_eq_true, if_false] at h hq ⊢
      exact wpAny_bind (wpAny_rule (drive k n _ (Nat.le_of_succ_le_succ hk) h e hq))
end
noncomputable def codeW : Array Nat := #[14, 14, 4, 1, 1, 9, 0, 64, 0, 1342177280, 0, 0, 0, 0, 0, 17, 0, 13, 11, 9, 0, 64, 0, 1342177280, 0, 0, 0, 0, 0, 17, 1, 1]
noncomputable def look (x : Array Nat) (p : Nat) (must : Bool) : Sre.M := turns 8 (Sre.forSearch codeW x 1 p x.size must)
section
variable {M : Model} {A : Around} {E : Value → Shared → Prop} {s : Shared}
theorem seenRules {f : Nat → PUnit → Sem (ForInStep PUnit)} (hf : ∀ i {Q : ForInStep PUnit → Shared → Prop}, Q (.yield ⟨⟩) s → wpAny M A (f i ⟨⟩) Q E s) {Q : PUnit → Shared → Prop} : ∀ (l : List Nat), Q ⟨⟩ s → wpAny M A (forIn l PUnit.unit f) Q E s
  | [], h => by rw [List.forIn_nil]; exact wpAny_pure h
  | i :: l, h => by
    rw [List.forIn_cons]
    exact wpAny_bind (hf i (seenRules hf l h))
end
structure PatAt (h : Heap) (p : Addr) : Prop where
  at_ : ∃ o fs l ol n items, h.get? p = some o ∧ o.cls = .type "re.Pattern" ∧ o.dict = none ∧ o.data = .fields fs ∧ reRawNat (fs.getD 6 .none) = 0 ∧ reRawNat (fs.getD 2 .none) = 1 ∧ fs.getD 5 .none = .ref l ∧
    h.get? l = some ol ∧ ol.data = .seq items n ∧ (items.map reRawOf).map (·.toNat) = codeW
theorem PatAt.keeps {h h' : Heap} {p} (x : PatAt h p) (k : ∀ b o, h.get? b = some o → h'.get? b = some o) : PatAt h' p := by
  obtain ⟨o, fs, l, ol, n, items, h1, h2, h3, h4, h5, h6, h7, h8, r⟩ := x.at_
  exact ⟨o, fs, l, ol, n, items, k _ _ h1, h2, h3, h4, h5, h6, h7, k _ _ h8, r⟩
theorem PatAt.ty {h : Heap} {p} (x : PatAt h p) : ∃ o, h.get? p = some o ∧ o.cls = .type "re.Pattern" ∧ o.dict = none := by
  obtain ⟨o, fs, l, ol, n, items, h1, h2, h3, r⟩ := x.at_
  exact ⟨o, h1, h2, h3⟩
section
variable {M : Model} {A : Around} {E : Value → Shared → Prop} {s : Shared}
noncomputable def tgt (p : Addr) (x : Str) (t : Tok) : ReTarget := { pattern := .ref p, string := .str x t, code := codeW, text := x.cps, kind := 0, groups := 1, pos := 0, lim := x.cps.size }
theorem target {p : Addr} {x : Str} {t : Tok} {Q : ReTarget → Shared → Prop} (P : PatAt s.heap p) (h : Q (tgt p x t) s) : wpAny M A (reWholeTarget (.ref p) (.str x t)) Q E s := by
  obtain ⟨o, fs, l, ol, n, items, h1, h2, h3, h4, h5, h6, h7, h8, h9, h10⟩ := P.at_
  unfold reWholeTarget
  refine wpAny_bind (wpAny_fieldsOf h1 h4 ?_)
  refine wbe (a := (x.cps, 0)) (by rfl) ?_
  dsimp only
  rw [h5]
  refine wbe (a := ()) (by rfl) ?_
  rw [h7]
  unfold reRawItems
  refine wpAny_bind (wpAny_bind (wpAny_seqItems h8 h9 (wpAny_pure ?_)))
  simp only [Option.getD_some, h10, h6]
  exact wpAny_pure h
end

theorem drive1 {M : Model} {A : Around} {E : Value → Shared → Prop} {s : Shared} (k n : Nat) (m : Sre.M) {Q : Sre.M → Shared → Prop} (hk : k + 1 ≤ n) (h : (turns (k + 1) m).outcome.isSome = true) (hq : Q (turns (k + 1) m) s) : wpAny M A (reDrive n m) Q E s := by
  obtain ⟨n, rfl⟩ : ∃ n', n = n' + 1 := ⟨n - 1, by omega⟩
  unfold reDrive
  unfold turns at h hq
  cases e : (m.runFor reTurnSteps).outcome.isSome with
  | true =>
    simp only [e, if_true] at h hq ⊢
    exact wpAny_pure hq
  | false =>
    simp only [e, Bool.false_eq_true, if_false] at h hq ⊢
    exact wpAny_bind (wpAny_rule (drive k n _ (Nat.le_of_succ_le_succ hk) h e hq))
theorem look_end {M : Model} {A : Around} {E : Value → Shared → Prop} {s : Shared} {m m' : Sre.M} {Q : Option Sre.M → Shared → Prop} (e : turns 8 m = m') (h : (m'.outcome = some .matched ∧ Q (some m') s) ∨ (m'.outcome = some .failed ∧ Q none s)) : wpAny M A (reRunToEnd m) Q E s := by
  unfold reRunToEnd
  have hs : m'.outcome.isSome = true := by rcases h with h | h <;> rw [h.1] <;> rfl
  refine wpAny_bind (drive1 7 (2 ^ 64) m (Nat.le_of_ble_eq_true rfl) (e ▸ hs) ?_)
  rw [e]
  refine wpAny_bind (seenRules (fun i Q hq => ?_) _ ?_)
  · split
    · first | exact wpAny_bind (wpAny_rule (wpAny_pure hq)) | exact wpAny_bind (wpAny_bind (wpAny_rule (wpAny_pure (wpAny_pure hq))))
    · first | exact wpAny_pure hq | exact wbp (wpAny_pure hq)
  rcases h with h | h <;> rw [h.1] <;> exact wpAny_pure h.2

noncomputable def plan : Nat → Array Nat → Nat → Nat → Bool → Option (List Str)
  | 0, _, _, _, _ => none
  | fuel + 1, x, start, done, must =>
    let m := look x start must
    match m.outcome with
    | some .failed => some (if done < x.size then [⟨x.extract done x.size⟩] else [])
    | some .matched =>
      if (1 : Int) ≤ m.lastmark then
        match m.marks.getD 0 none, m.marks.getD 1 none with
        | some b, some e => if b ≤ e then (plan fuel x m.handed m.handed (m.handed == m.start)).map fun r =>
            (if done < m.start then [⟨x.extract done m.start⟩] else []) ++ (⟨#[92] ++ x.extract b e⟩ :: r)
          else none
        | _, _ => none
      else none
    | _ => none
section
variable {M : Model} {A : Around} {E : Value → Shared → Prop} {s : Shared}
theorem push_plain {l : Addr} {items : Array Value} {v : Value} {Q : Unit → Shared → Prop} (hl : s.heap.PlainList l items) (hs : items.size < sizeLine)
    (hQ : ∀ h', h'.PlainList l (items.push v) → Heap.SameBut l s.heap h' → Q () { s with heap := h' }) : wpAny M A (updateSeq l (·.push v)) Q E s := by
  obtain ⟨n, ho⟩ := hl
  have hd : ({ cls := .type "list", data := .seq items n } : Obj).data = .seq items n := rfl
  obtain ⟨n', hd'⟩ := Obj.data_mapSeq hd (·.push v)
  exact wpAny_updateSeq ho hd (hQ _ ⟨_, Heap.get?_update_self _ ho (Obj.isFreed_of_seq hd')⟩ (Heap.SameBut.update ..)) (Nat.le_of_lt hs) (by simp only [Array.size_push]; omega)
end
end

section
open PySem.Builtin PySem.Builtin.Re
section
variable {prog : Program} {w : World} {A : Around} {R : Result → Shared → Prop} {s : Shared}
noncomputable abbrev loopArgs (p f l : Addr) (x : Str) (t : Tok) (n done start : Int) (must : Bool) : Args := ⟨[.ref p, .str x t, .ref f, rawInt 1, rawInt 0, rawInt n, rawInt done, rawInt start, .bool must, .ref l, .bool false], []⟩
noncomputable def LamC (prog : Program) (w : World) (A : Around) (p f : Addr) (x : Str) (t : Tok) (I : Shared → Prop) : Prop :=
  ∀ (args : Args) (E : Value → Shared → Prop) (s : Shared) (a tu : Addr) (b e st hd li : Int) (B C : Nat), I s → 0 ≤ s.toks → (B : Int) = b → (C : Int) = e →
    s.heap.get? a = some { cls := .type "re.Match", data := .fields #[.str x t, .ref p, rawInt 0, rawInt x.cps.size, rawInt li, .ref tu] } →
    s.heap.get? tu = some { cls := .type "tuple", data := .seq #[rawInt st, rawInt hd, rawInt b, rawInt e] } →
    wpAny (model prog w) (A.under (.builtin "re.Pattern.sub.loop" args)) (call (.ref f) [.ref a]) (fun v s' => (∃ t', v = .str ⟨#[92] ++ x.cps.extract B C⟩ t') ∧ Keeps s s') E s

noncomputable def resubT (l : Addr) (cs : Array Nat) : Sem PySem.Fin := do
  let joiner ← reSlice cs 0 0 0
  let y ← seqItems? (Value.ref l)
  if (y.getD #[]).isEmpty = true then do
    let text ← pure joiner
    ret text
  else do
    let text ← call (Value.builtin "str.join") [joiner, Value.ref l]
    ret text
noncomputable def resubR (p f l : Addr) (x : Str) (t : Tok) (m : Sre.M) (K : Sem PySem.Fin) : Sem PySem.Fin := do
  let found ← reNewMatch (Value.ref p) (Value.str x t) 1 0 x.cps.size m
  let item ← holding [found] (call (Value.ref f) [found])
  if (item != Value.none) = true then do
    updateSeq l fun x => x.push item
    K
  else K
noncomputable def resubC (l : Addr) (cs : Array Nat) (a b : Nat) (K : Sem PySem.Fin) : Sem PySem.Fin :=
  if a < b then do
    let y ← reSlice cs 0 a b
    updateSeq l fun z => z.push y
    K
  else K
theorem resub_tail {A' : Around} {Q : PySem.Fin → Shared → Prop} {E : Value → Shared → Prop} {l : Addr} {cs : Array Nat} {rs : List Str} {acc : List (Str × Tok)} {I : Shared → Prop} (hI : ∀ s tk, I s → s.toks ≤ tk → I { s with toks := tk })
    (hl : s.heap.PlainList l (strValues acc).toArray) (hacc : acc.map (·.1) = rs) (hj : JoinOk Str.empty rs = true) (hs : I s) (hQ : ∀ s' t', I s' → Q (.done (.ret (.str (Txt.join Str.empty rs) t'))) s') :
    wpAny (model prog w) A' (resubT l cs) Q E s := by
  have hem : (⟨cs.extract 0 0⟩ : Str) = Str.empty := by simp [Str.empty]
  obtain ⟨nn, hl₁o⟩ := id hl
  unfold resubT reSlice
  rw [if_pos (by rfl), hem]
  refine wpAny_bind (wpAny_mkStr ?_ (by decide))
  refine wpAny_bind (wpAny_seqItems (n := nn) hl₁o rfl ?_)
  dsimp only [Option.getD_some]
  refine wpAny_ite_split (fun he => ?_) (fun _ => ?_)
  · obtain rfl : acc = [] := by
      cases acc with
      | nil => rfl
      | cons a r => simp [strValues] at he
    refine wbp (wpAny_pure ?_)
    have := hQ { s with toks := s.toks + 1 } s.toks (hI s _ hs (Nat.le_succ _))
    rw [← hacc] at this
    exact this
  · refine wpAny_bind (wpAny_mono (wpAny_toks (SC.join (s := { s with toks := s.toks + 1 }) (Q := fun v s' => ∃ t' k, v = .str (Txt.join Str.empty rs) t' ∧ s' = { s with toks := k }) hl.isList hacc hj fun t' k => ⟨t', k, rfl, rfl⟩)) (fun v s' hpt => ?_) fun _ _ e => e.2)
    obtain ⟨htk, t', k, e1, e2⟩ := hpt
    subst e1 e2
    exact wpAny_pure (hQ _ t' (hI s _ hs (Nat.le_trans (Nat.le_succ _) htk)))
theorem resub_rest {Q : PySem.Fin → Shared → Prop} {E : Value → Shared → Prop} {K : Sem PySem.Fin} {args : Args} {m : Sre.M} {p f l : Addr} {x : Str} {t : Tok} {mb me : Nat} {acc : List (Str × Tok)} {I : Shared → Prop} (hlam : LamC prog w A p f x t I) (hI : ∀ s h' tk, I s → s.toks ≤ tk → (∀ b o, b ≠ l → s.heap.get? b = some o → h'.get? b = some o) → I { s with heap := h', toks := tk })
    (hlm : 1 ≤ m.lastmark) (hb : m.marks.getD 0 none = some mb) (he : m.marks.getD 1 none = some me) (hbe : mb ≤ me) (hl : s.heap.PlainList l (strValues acc).toArray) (hlen : acc.length < sizeLine) (hs : I s)
    (hQ : ∀ s' t', I s' → s'.heap.PlainList l (strValues (acc ++ [(⟨#[92] ++ x.cps.extract mb me⟩, t')])).toArray → wpAny (model prog w) (A.under (.builtin "re.Pattern.sub.loop" args)) K Q E s') :
    wpAny (model prog w) (A.under (.builtin "re.Pattern.sub.loop" args)) (resubR p f l x t m K) Q E s := by
  unfold resubR reNewMatch
  have hcond : (((2 * 0 + 1 : Nat) : Int) ≤ m.lastmark) := hlm
  simp only [List.range_succ, List.range_zero, List.nil_append, List.flatMap_cons, List.flatMap_nil, List.append_nil, List.any_cons, List.any_nil, Bool.or_false, hcond, if_true]
  have hb' : m.marks.getD (2 * 0) none = some mb := hb
  have he' : m.marks.getD (2 * 0 + 1) none = some me := he
  have hno : (decide True && decide (me < mb)) = false := by simp [Nat.not_lt.mpr hbe]
  simp only [hb', he', hno, Bool.false_eq_true, if_false]
  refine wpAny_bind (wpAny_bind ?_)
  simp only [newTuple, newFields]
  refine wpAny_newObj_type ?_ (by size_fits)
  refine wpAny_newObj_type ?_ (by size_fits)
  have up : ∀ b o, s.heap.get? b = some o → ((s.heap.push { cls := .type "tuple", data := .seq [rawInt m.start, rawInt m.handed, rawInt mb, rawInt me].toArray }).push { cls := .type "re.Match", data := .fields #[.str x t, .ref p, rawInt 0, rawInt x.cps.size, rawInt m.lastindex, .ref s.heap.objs.size] }).get? b = some o :=
    fun b o e => Heap.get?_push_of_some _ (Heap.get?_push_of_some _ e)
  refine wbh ?_
  refine wpAny_mono (wpAny_toks (hlam _ _ _ _ s.heap.objs.size mb me m.start m.handed m.lastindex mb me (hI s _ _ hs (Nat.le_refl _) fun b o _ e => up b o e) (Nat.zero_le _) rfl rfl (Heap.get?_push_size _ rfl) (Heap.get?_push_of_some _ (Heap.get?_push_size _ rfl)))) (fun v s₂ ⟨htk, ⟨t', e1⟩, ⟨h₂, tk₂, e2, hk₂⟩⟩ => ?_) fun _ _ e => e.2
  subst e1 e2
  rw [if_pos (by rfl)]
  refine wpAny_bind (push_plain (items := (strValues acc).toArray) ?_ (by simp only [strValues, List.size_toArray, List.length_map]; exact hlen) fun h' hp' hs' => hQ _ t' (hI s h' tk₂ hs htk fun b o hb e => (hs'.2 b hb).trans (hk₂ _ _ (up _ _ e))) (by simpa [strValues] using hp'))
  obtain ⟨nn, e⟩ := hl
  exact ⟨nn, hk₂ _ _ (up _ _ e)⟩
theorem resub_cut {M : Model} {A' : Around} {Q : PySem.Fin → Shared → Prop} {E : Value → Shared → Prop} {K : Sem PySem.Fin} {l : Addr} {cs : Array Nat} {a b : Nat} {acc : List (Str × Tok)} {I : Shared → Prop} (hI : ∀ s h' tk, I s → s.toks ≤ tk → (∀ b o, b ≠ l → s.heap.get? b = some o → h'.get? b = some o) → I { s with heap := h', toks := tk })
    (hcs : cs.size ≤ sizeLine) (hl : s.heap.PlainList l (strValues acc).toArray) (hlen : acc.length < sizeLine) (hs : I s)
    (hK : ∀ s' acc', I s' → s'.heap.PlainList l (strValues acc').toArray → acc'.map (·.1) = acc.map (·.1) ++ (if a < b then [⟨cs.extract a b⟩] else []) → wpAny M A' K Q E s') : wpAny M A' (resubC l cs a b K) Q E s := by
  unfold resubC
  refine wpAny_ite_split (fun hd => ?_) fun hd => hK s acc hs hl (by rw [if_neg hd, List.append_nil])
  unfold reSlice
  rw [if_pos (by rfl)]
  refine wpAny_bind (wpAny_mkStr ?_ (by show (cs.extract a b).size ≤ sizeLine; simp only [Array.size_extract]; omega))
  refine wpAny_bind (push_plain (s := { s with toks := s.toks + 1 }) hl (by simp only [strValues, List.size_toArray, List.length_map]; exact hlen) fun h' hp' hs' =>
    hK _ (acc ++ [(⟨cs.extract a b⟩, s.toks)]) (hI s h' (s.toks + 1) hs (Nat.le_succ _) fun b o hb e => (hs'.2 b hb).trans e) (by simpa [strValues] using hp') (by rw [if_pos hd]; simp))
theorem resub_head {A' : Around} {Q : PySem.Fin → Shared → Prop} {E : Value → Shared → Prop} {m : Sre.M} {p f l : Addr} {x : Str} {t : Tok} {n : Int} {done start : Nat} {must : Bool} (P : PatAt s.heap p) (hm : look x.cps start must = m)
    (h : (m.outcome = some .matched ∧ wpAny (model prog w) A' (resubC l x.cps done m.start (resubR p f l x t m (again (.builtin "re.Pattern.sub.loop" (loopArgs p f l x t (n + 1) m.handed m.handed (m.handed == m.start)))))) Q E s) ∨
      (m.outcome = some .failed ∧ wpAny (model prog w) A' (resubC l x.cps done x.cps.size (resubT l x.cps)) Q E s)) :
    wpAny (model prog w) A' (Builtin.«re.Pattern.sub.loop» (loopArgs p f l x t n done start must)) Q E s := by
  unfold Builtin.«re.Pattern.sub.loop»
  dsimp only [loopArgs]
  refine wpAny_bind (target P ?_)
  refine wpAny_ite_false rfl ?_
  exact wpAny_bind (wpAny_ite_false rfl (look_end hm h))
set_option tactic.hygienic true in
theorem subLoop {p f l : Addr} {x : Str} {t : Tok} {I : Shared → Prop} (hlam : LamC prog w A p f x t I) (hI : ∀ s h' tk, I s → s.toks ≤ tk → (∀ b o, b ≠ l → s.heap.get? b = some o → h'.get? b = some o) → I { s with heap := h', toks := tk }) (hxs : x.cps.size ≤ sizeLine)
    (hPat : ∀ s, I s → PatAt s.heap p) : ∀ (fuel : Nat) (s : Shared) (acc : List (Str × Tok)) (n : Int) (done start : Nat) (must : Bool) (ps : List Str), plan fuel x.cps start done must = some ps → I s → 0 ≤ s.toks →
      s.heap.PlainList l (strValues acc).toArray → JoinOk Str.empty (acc.map (·.1) ++ ps) = true → acc.length + 2 * fuel < sizeLine →
      (∀ s' t', I s' → R (.ok (.ret (.str (Txt.join Str.empty (acc.map (·.1) ++ ps)) t'))) s') →
      codeAny (model prog w) A (.builtin "re.Pattern.sub.loop" (loopArgs p f l x t n done start must)) R s
  | 0, _, _, _, _, _, _, _, h, _, _, _, _, _, _ => by cases h
  | fuel + 1, s, acc, n, done, start, must, ps, h, hs, h0, hl, hj, hsz, hR => by
    unfold plan at h
    generalize hm : look x.cps start must = m at h
    dsimp only at h
    refine codeAny_builtin entry_subloop (resub_head (hPat s hs) hm ?_)
    split at h
    · rename_i ho
      cases h
      exact .inr ⟨ho, resub_cut hI hxs hl (by omega) hs fun s' acc' hs' hl' he => resub_tail (fun s tk h e => hI s _ tk h e fun _ _ _ e => e) hl' he hj hs' hR⟩
    · rename_i ho
      split at h
      case isFalse => cases h
      rename_i hlm
      split at h
      case h_2 => cases h
      rename_i mb me hb he
      split at h
      case isFalse => cases h
      rename_i hbe
      obtain ⟨r, hr, h⟩ := Option.map_eq_some_iff.mp h
      subst h
      refine .inl ⟨ho, resub_cut hI hxs hl (by omega) hs fun s' acc' hs' hl' hacc => ?_⟩
      have hle : acc'.length ≤ acc.length + 1 := by
        have := congrArg List.length hacc
        simp only [List.length_map, List.length_append] at this
        split at this <;> simp only [List.length_singleton, List.length_nil] at this <;> omega
      refine resub_rest hlam hI hlm hb he hbe hl' (by omega) hs' fun s₂ t' hs₂ hp₂ => wpAny_pure ⟨Code.quiet_builtin _ (by decide +kernel), ?_⟩
      have e : (acc' ++ [((⟨#[92] ++ x.cps.extract mb me⟩ : Str), t')]).map (·.1) ++ r = acc.map (·.1) ++ ((if done < m.start then [⟨x.cps.extract done m.start⟩] else []) ++ (⟨#[92] ++ x.cps.extract mb me⟩ :: r)) := by
        rw [List.map_append, hacc]
        simp only [List.map_cons, List.map_nil, List.append_assoc, List.cons_append, List.nil_append]
      rw [← e] at hj hR
      exact subLoop hlam hI hxs hPat fuel _ _ (n + 1) m.handed m.handed (m.handed == m.start) r hr hs₂ (Nat.zero_le _) hp₂ hj (by simp only [List.length_append, List.length_singleton]; omega) hR
    · cases h
end
end

section
open PySem.Builtin PySem.Builtin.Re
section
variable {prog : Program} {w : World} {A : Around} {E : Value → Shared → Prop} {s : Shared}
theorem fn_call_slot : typeLookup (.type "function") "__call__" = pure (some (.builtin "function.__call__")) := by rw [typeLookup_type, builtinLookup_eq_fast]; kernel_rfl
theorem sub_ba : isSubtype (.type "str") (.type "bytearray") = pure false := by rw [isSubtype_type]; kernel_rfl
theorem not_held {x : Str} {t : Tok} {id : String} {Q : Unit → Shared → Prop} (h : Q () s) : wpAny (model prog w) A (reNotHeld id (.str x t)) Q E s := by
  unfold reNotHeld
  refine wpAny_bind (wpAny_isInstance (typeIs_str _ _ _) sub_ba ?_)
  simp only [Bool.false_eq_true, if_false]
  first | exact wpAny_pure h | exact wbp (wpAny_pure h)
theorem call_sub {p f : Addr} {x : Str} {t : Tok} {Q : Value → Shared → Prop} (P : PatAt s.heap p) (hf : s.TypeIs (.ref f) "function") 
    (h : ∀ (R : Result → Shared → Prop), (∀ v s', Q v s' → R (.ok (.ret v)) s') → codeAny (model prog w) A (.builtin "re.Pattern.sub.loop" (loopArgs p f s.heap.objs.size x t 0 0 0 false)) R { s with heap := s.heap.push { cls := .type "list", data := .seq #[] } }) : wpAny (model prog w) A (call (.builtin "re.Pattern.sub") [.ref p, .ref f, .str x t]) Q E s := by
  refine wpAny_call (codeAny_call_builtin slot_sub.plain entry_sub (slot_sub.check _ _ _ _ _ _ _ _ (P.ty.imp fun _ h => ⟨h.1, h.2.1⟩) (args_sub _ _ _) ?_))
  unfold Builtin.«re.Pattern.sub» reSubstitute
  dsimp only
  refine wbe (a := [some (.ref f), some (.str x t), none]) (by first | rfl | kernel_rfl) ?_
  dsimp only
  refine wbp ?_
  refine wpAny_bind (wpAny_specialOf hf fn_call_slot ?_)
  rw [if_pos (show ((some (Value.builtin "function.__call__")).isSome) = true from rfl)]
  refine wbp ?_
  rw [if_pos (show ((some (Value.builtin "function.__call__")).isSome) = true from rfl)]
  refine wbp ?_
  refine wbh (target P ?_)
  rw [if_pos (by rfl)]
  refine wpAny_bind (not_held ?_)
  simp only [newList]
  refine wpAny_bind (wpAny_newObj_type ?_ (by size_fits))
  exact wpAny_pure ⟨Code.quiet_builtin _ (by decide +kernel), h _ fun v s' hv => hv⟩
end
end

section
open PySem.Builtin PySem.Builtin.Re
section
variable {prog : Program} {w : World} {A : Around} {E : Value → Shared → Prop} {s : Shared}
theorem call_group {a tu p : Addr} {x : Str} {t u : Tok} {st hd li lim b e : Int} {B C : Nat} {Q : Value → Shared → Prop} (hB : (B : Int) = b) (hC : (C : Int) = e) (hx : x.cps.size ≤ sizeLine)
    (ha : s.heap.get? a = some { cls := .type "re.Match", data := .fields #[.str x t, .ref p, rawInt 0, rawInt lim, rawInt li, .ref tu] }) (ht : s.heap.get? tu = some { cls := .type "tuple", data := .seq #[rawInt st, rawInt hd, rawInt b, rawInt e] })
    (hQ : ∀ t' k, Q (.str ⟨x.cps.extract B C⟩ t') { s with toks := k }) : wpAny (model prog w) A (call (.builtin "re.Match.group") [.ref a, .int 1 u]) Q E s := by
  refine wpAny_call (codeAny_call_builtin slot_group.plain entry_group (slot_group.check _ _ _ _ _ _ _ _ ⟨_, ha, rfl⟩ (args_group _ _) ?_))
  unfold Builtin.«re.Match.group»
  dsimp only
  refine wbe (a := ()) (by rfl) ?_
  unfold reFound reRawItems
  refine wpAny_bind (wpAny_bind (wpAny_fieldsOf ha rfl ?_))
  refine wpAny_bind (wpAny_bind (wpAny_seqItems (a := tu) ht rfl (wpAny_pure (wpAny_pure ?_))))
  subst hB hC
  have hsp : Array.map reRawOf ((some #[rawInt st, rawInt hd, rawInt (B : Int), rawInt (C : Int)]).getD #[]) = #[st, hd, (B : Int), (C : Int)] := by simp [reRawOf, rawInt]
  rw [hsp]
  refine wbe (a := 1) (by rfl) ?_
  unfold reGroupText
  have hb : ((((B : Int) : Int) < 0 || ((C : Int) : Int) < 0) : Bool) = false := by simp
  refine wpAny_bind ?_
  show wpAny (model prog w) A.in1 (if (decide ((B : Int) < 0) || decide ((C : Int) < 0)) = true then pure Value.none else do
    let (text, kind) ← reTextOf (.str x t)
    reSlice text kind (B : Int).toNat (C : Int).toNat) _ _ s
  rw [if_neg (by rw [hb]; exact Bool.false_ne_true)]
  refine wbe (a := (x.cps, 0)) (by rfl) ?_
  show wpAny (model prog w) A.in1 (mkStr ⟨x.cps.extract (B : Int).toNat (C : Int).toNat⟩) _ _ s
  simp only [Int.toNat_natCast]
  exact wpAny_mkStr (wpAny_pure (hQ _ _)) (by show (x.cps.extract B C).size ≤ sizeLine; simp only [Array.size_extract]; omega)
end
end

section
namespace FK
theorem typeCall_dict_0 : checkTypeCall "dict" ⟨[], []⟩ = pure () := by kernel_rfl
theorem newCall_dict_0 : checkBuiltinCall "dict.__new__" ⟨[.type "dict"], []⟩ = pure () := by kernel_rfl
theorem args_dict_init_1 (a : Value) : argsOk "dict.__init__" ⟨[a], []⟩ := by unfold argsOk; kernel_rfl
section
variable {prog : Program} {w : World} {A : Around} {E : Value → Shared → Prop} {s : Shared}
theorem code_dict_new0 {Q₁ : Value → Shared → Prop} (h : Q₁ (.ref s.heap.objs.size) { s with heap := s.heap.push { cls := .type "dict", data := .dict #[] } }) :
    codeAny (model prog w) A (.call (.builtin "dict.__new__") ⟨[.type "dict"], []⟩) (wants Q₁ E) s := by
  refine codeAny_call_builtin F.kt_plain_dict_new F.kt_entry_dict_new (wpAny_of_eq newCall_dict_0 ?_)
  have hsub := F.kt_sub_dict
  have hmro := F.kt_mro_dict
  obtain ⟨hp, g, d, tk, os⟩ := s
  unfold Builtin.«dict.__new__»
  wp_walk
  exact h
theorem call_dict_0 {Q : Value → Shared → Prop}
    (h : Q (.ref s.heap.objs.size) { s with heap := s.heap.push { cls := .type "dict", data := .dict #[] } }) :
    wpAny (model prog w) A (call (.type "dict") []) Q E s := by
  refine callType_codes (Q₁ := fun obj s₁ => obj = .ref s.heap.objs.size ∧ s₁ = { s with heap := s.heap.push { cls := .type "dict", data := .dict #[] } }) F.kt_called_dict typeCall_dict_0 F.entry_dict_init (code_dict_new0 ⟨rfl, rfl⟩) ?_
  rintro obj s₁ ⟨rfl, rfl⟩
  have hnew : (s.heap.push { cls := .type "dict", data := .dict #[] }).DictOf (PySem.strKind prog w) s.heap.objs.size [] := Heap.DictOf.new s.heap
  refine ⟨hnew.typeIs, args_dict_init_1 _, ?_⟩
  unfold Builtin.«dict.__init__»
  refine wpAny_bind ?_
  unfold Builtin.Dict.selfAndRest
  refine wpAny_bind (wpAny_notOrdered_dict hnew.typeIs ?_)
  show wpAny _ _ (pure (s.heap.objs.size, [])) _ _ _
  refine wpAny_pure ?_
  unfold Builtin.Dict.updateCommon
  dsimp only
  wp_walk
  all_goals exact ⟨rfl, h⟩
end
noncomputable def keysIn (l : List Str) (kvs : List (Str × Value)) : List (Str × Value) := l.foldl (fun a k => stored a k .none) kvs
noncomputable def bound : Obj := { cls := .type "builtin_function_or_method", data := .fields #[.builtin "dict.fromkeys", .type "dict"] }
theorem type_fk : typeOf (.builtin "dict.fromkeys") = pure (.type "classmethod_descriptor") := by show builtinType _ = _; rw [builtinType_eq_fast]; kernel_rfl
theorem entry_fk : entryFor table "dict.fromkeys" = some Builtin.«dict.fromkeys» := entryFor_of_tree (by kernel_rfl)
theorem entry_loop : entryFor table "dict.fromkeys.loop" = some Builtin.«dict.fromkeys.loop» := entryFor_of_tree (by kernel_rfl)
theorem type_dict : isType (.type "dict") = pure true := by first | rfl | kernel_rfl | (unfold isType; rw [isSubtype_type]; kernel_rfl)
theorem owner_fk : (kfb_private% "ownerAndName") "dict.fromkeys" = ("dict", "fromkeys") := by first | decide +kernel | kernel_rfl
theorem check_fk (a : Addr) : checkBoundCall "dict.fromkeys" ⟨[.type "dict", .ref a], []⟩ = pure () := by first | kernel_rfl | rfl
section
variable {prog : Program} {w : World} {A : Around} {E : Value → Shared → Prop} {s : Shared}
theorem run_get {M : Model} {P : Fin → Shared → Prop} (h : P (.done (.ret (.ref s.heap.objs.size))) { s with heap := s.heap.push bound }) :
    wpAny M A (Builtin.«classmethod_descriptor.__get__» ⟨[.builtin "dict.fromkeys", .none, .type "dict"], []⟩) P E s := by
  unfold Builtin.«classmethod_descriptor.__get__»
  refine wbe (a := (.builtin "dict.fromkeys", none, some (.type "dict"))) (by first | rfl | kernel_rfl) ?_
  simp only [owner_fk]
  refine wbe (a := .type "dict") rfl ?_
  refine wbe (a := true) type_dict ?_
  refine KFB.if_not rfl ?_
  refine wbe (a := true) F.kt_sub_dict ?_
  refine KFB.if_not rfl ?_
  exact wpAny_bind (wpAny_newObj_type (wpAny_pure h))
theorem getm {pl : Sem Bool} {Q : Value × List Value → Shared → Prop} 
    (h : Q (.ref s.heap.objs.size, []) { s with heap := s.heap.push bound, toks := s.toks + 1 }) :
    wpAny (model prog w) A (getMethod (.type "dict") (PySem.Str.ofString "fromkeys") pl) Q E s := by
  have X : Frag.In [] s.heap := fun a o e => nomatch e
  have e : findCls [] (.type "dict") (.type "type") (PySem.Str.ofString "fromkeys") = some (.get (.builtin "classmethod_descriptor.__get__") (.builtin "dict.fromkeys") .none (.type "dict")) := by first | decide +kernel | kernel_rfl
  have hstub : opaqueClassAbove (.type "dict") = pure none := by unfold opaqueClassAbove; dsimp only; rw [show Manifest.isStub "dict" = false by decide +kernel]; rfl
  have ht : typeOf (.type "dict") = pure (.type "type") := by first | rfl | kernel_rfl
  have L0 : Looks (model prog w) s.heap (typeOf (.type "dict")) (.type "type") := Looks.of_pure ht
  have hg : findIn [] (.type "type") "__getattribute__" = some (some (.builtin "type.__getattribute__")) := type_tga
  unfold getMethod specialOf
  refine wpAny_bind (wpAny_bind (L0.here ((looks_findIn X hg).here ?_)))
  dsimp only
  rw [if_pos canon_tga]
  refine wpAny_bind (wpAny_mono (Q := fun v => Q (v, [])) (E := E) ?_ (fun _ _ z => wpAny_pure z) fun _ _ z => z)
  have LO : Looks (model prog w) s.heap (opaqueClassAbove (.type "dict")) none := Looks.of_pure hstub
  refine cls_open X LO L0 hg (looks_hook X (r := none) (by rfl)) (by show subIn [] _ _ = _; rfl) e ?_
  show wpAny _ _ (holding [.builtin "dict.fromkeys"] (call (.builtin "classmethod_descriptor.__get__") [.builtin "dict.fromkeys", .none, .type "dict"]) >>= fun v => ret v) _ _ _
  refine wbh (wpAny_call_entry KFB.slot_get type_fk KFB.entry_get (run_get ⟨_, rfl, wpAny_pure (wpAny_pure h)⟩) (KFB.args_get _ _ _))
theorem callWith_fields {M : Model} {pos : Pos} {u : Addr} {first : List Value} {args : List (Bool × Sem Value)} {Q : Value → Shared → Prop} (hplain : args.any (·.1) = false)
    (h : wpAny M A (evalArgs (.ref u) true args []) (fun x s₁ => s₁.heap.get? u = some bound ∧ wpAny M A (call (.ref u) (first ++ x.pos) x.kw) Q E s₁) E s) : wpAny M A (callWith pos (.ref u) first args []) Q E s := by
  unfold callWith
  refine wbh (wm h (fun x s₁ h₁ => wbs ?_))
  obtain ⟨ho, hcall⟩ := h₁
  simp only [hplain, List.any_nil, Bool.or_false]
  refine wpAny_bind (m := keeperOf (.ref u)) ?_
  unfold keeperOf
  refine wpAny_bind (wpAny_load ho ?_)
  simp only [bound, show (Value.type "builtin_function_or_method" != Value.type "method") = true by decide, show (Value.type "builtin_function_or_method" == Value.type "builtin_function_or_method" || Value.type "builtin_function_or_method" == Value.type "method-wrapper") = true by decide, if_true]
  refine wpAny_pure ?_
  exact wb hcall (fun r s₂ hr => wbh (wpAny_point (wpAny_pure hr)))
theorem loop_run {R : Result → Shared → Prop} {D I a : Addr} {items : Array Value} (hh : A.handled = none) (hne : a ≠ I) (hDI : D ≠ I) (hDa : D ≠ a) (hD86 : (D == sysModules) = false) : ∀ (l : List Str) (i : Nat) (kvs : List (Str × Value)) (s : Shared),
    items.size = i + l.length → (∀ j k, l[j]? = some k → ∃ t, items[i + j]? = some (.str k t)) → s.heap.DictOf (PySem.strKind prog w) D kvs → s.heap.IsListIter I a i → s.heap.IsList a items → kvs.length + l.length ≤ sizeLine →
    (∀ h' tk, s.toks ≤ tk → h'.DictOf (PySem.strKind prog w) D (keysIn l kvs) → (∀ b o, b ≠ D → b ≠ I → s.heap.get? b = some o → h'.get? b = some o) → R (.ok (.ret (.ref D))) { s with heap := h', toks := tk }) →
    codeAny (model prog w) A (.builtin "dict.fromkeys.loop" ⟨[.ref D, .ref I, .none], []⟩) R s
  | [], i, kvs, s, hsz, hit, hd, hI, hL, hlen, hR => by
    refine codeAny_builtin entry_loop ?_
    unfold Builtin.«dict.fromkeys.loop»
    dsimp only
    refine wpAny_bind (wpAny_with_toks (Nat.le_refl s.toks) (wpAny_pyNext_list_end hh hI hL (by simp only [List.length_nil] at hsz; simp [hsz]) fun h₂ he₂ htk => ?_))
    dsimp only
    exact wpAny_pure (hR h₂ _ htk (hd.extBut he₂ hDI) fun b o _ h2 e => he₂ b o h2 e)
  | k :: l, i, kvs, s, hsz, hit, hd, hI, hL, hlen, hR => by
    obtain ⟨t, hk⟩ := hit 0 k rfl
    rw [Nat.add_zero] at hk
    refine codeAny_builtin entry_loop ?_
    unfold Builtin.«dict.fromkeys.loop»
    dsimp only
    refine wpAny_bind (wpAny_pyNext_list_item hI hL hk fun h₁ hI₁ hs₁ => ?_)
    dsimp only
    have hd₁ := hd.sameBut hs₁ hDI
    have hL₁ : h₁.IsList a items := hL.extBut hs₁.extBut hne
    refine wpAny_bind (wpAny_typeOf (Heap.DictOf.typeIs (s := { s with heap := h₁ }) hd₁) ?_)
    rw [if_pos (by decide)]
    refine wbe (a := D) (by rfl) ?_
    refine wbh ?_
    refine wpAny_dictSet_pairs (knd := PySem.strKind prog w) (k := k) (by simp [PySem.strKind, Value.isStrOf]) hd₁ (fun h₂ hd₂ hs₂ => ?_) (by simp only [List.length_cons] at hlen; omega)
    refine wpAny_pure ⟨Code.quiet_builtin _ (by decide +kernel), ?_⟩
    have hI₂ : h₂.IsListIter I a (i + 1) := hI₁.extBut hs₂.extBut (Ne.symm hDI)
    have hL₂ : h₂.IsList a items := hL₁.extBut hs₂.extBut (Ne.symm hDa)
    refine loop_run hh hne hDI hDa hD86 l (i + 1) (stored kvs k .none) _ (by simp only [List.length_cons] at hsz; omega) (fun j k' e => by
      obtain ⟨t', e'⟩ := hit (j + 1) k' (by simpa using e)
      exact ⟨t', by rw [show i + 1 + j = i + (j + 1) by omega]; exact e'⟩) hd₂ hI₂ hL₂ ?_ fun h' tk htk hd' hk' => ?_
    · have h2 : (stored kvs k Value.none).length ≤ kvs.length + 1 := by
        unfold stored; split
        · simp
        · simp
      simp only [List.length_cons] at hlen; omega
    · exact hR h' tk (Nat.le_trans (Nat.le_succ _) htk) hd' fun b o b1 b2 e => hk' b o b1 b2 ((hs₂.2 b b1).trans ((hs₁.2 b b2).trans e))
theorem call_fk {x a : Addr} {items : Array Value} {l : List Str} {Q : Value → Shared → Prop} (hh : A.handled = none) (h86 : 86 < s.heap.objs.size) (ho : s.heap.get? x = some bound) (hL : s.heap.IsList a items) (hsz : items.size = l.length)
    (hit : ∀ (j : Nat) k, l[j]? = some k → ∃ t, items[j]? = some (.str k t)) (hlen : l.length ≤ sizeLine)
    (h : ∀ h' tk, s.toks ≤ tk → h'.DictOf (PySem.strKind prog w) s.heap.objs.size (keysIn l []) → (∀ b o, s.heap.get? b = some o → h'.get? b = some o) → Q (.ref s.heap.objs.size) { s with heap := h', toks := tk }) :
    wpAny (model prog w) A (call (.ref x) [.ref a]) Q E s := by
  refine wpAny_call (codeAny_of_tree ?_)
  show wpAny _ A.in1 (callAny (.ref x) ⟨[.ref a], []⟩) _ _ s
  simp only [callAny]
  refine wpAny_bind (wpAny_load ho ?_)
  simp only [bound, show (Value.type "builtin_function_or_method" == Value.type "method" || Value.type "builtin_function_or_method" == Value.type "builtin_function_or_method" || Value.type "builtin_function_or_method" == Value.type "method-wrapper") = true by decide, if_true]
  refine KFB.if_so (by decide) ?_
  refine wbe (a := ()) (check_fk a) ?_
  refine wbp (wpAny_pure ?_)
  refine ⟨Code.quiet_builtin _ (by decide +kernel), codeAny_builtin entry_fk ?_⟩
  unfold Builtin.«dict.fromkeys»
  dsimp only
  refine wbe (a := true) type_dict ?_
  refine KFB.if_not rfl ?_
  refine wbe (a := true) F.kt_sub_dict ?_
  refine KFB.if_not rfl ?_
  refine KFB.if_not rfl ?_
  refine wpAny_bind (wpAny_rule ?_)
  refine wbp ?_
  dsimp only
  refine wpAny_bind (call_dict_0 ?_)
  have ha : a < s.heap.objs.size := by obtain ⟨o, e, _⟩ := hL; exact Heap.lt_size e
  have hnew : (s.heap.push { cls := .type "dict", data := .dict #[] }).DictOf (PySem.strKind prog w) s.heap.objs.size [] := Heap.DictOf.new s.heap
  have hL₁ := hL.push { cls := .type "dict", data := .dict #[] }
  refine wpAny_holding ?_
  refine wpAny_bind (wpAny_typeOf hL₁.typeIs ?_)
  refine wpAny_bind (wpAny_typeOf hnew.typeIs ?_)
  refine KFB.if_not (by decide) ?_
  refine wpAny_bind (wpAny_typeOf hnew.typeIs ?_)
  refine KFB.if_not (by decide) ?_
  refine wpAny_bind (wpAny_pyIter_list hL₁ ?_)
  refine wpAny_pure ⟨Code.quiet_builtin _ (by decide +kernel), ?_⟩
  have hI : (s.heap.push { cls := .type "dict", data := .dict #[] }).objs.size = s.heap.objs.size + 1 := Heap.size_push ..
  have n1 : a ≠ (s.heap.push { cls := .type "dict", data := .dict #[] }).objs.size := hI ▸ Nat.ne_of_lt (Nat.lt_succ_of_lt ha)
  have n2 : s.heap.objs.size ≠ (s.heap.push { cls := .type "dict", data := .dict #[] }).objs.size := hI ▸ Nat.ne_of_lt (Nat.lt_succ_self _)
  refine loop_run (a := a) (items := items) hh n1 n2 (Nat.ne_of_gt ha) (by rw [beq_eq_false_iff_ne]; intro q; rw [q] at h86; exact absurd h86 (by decide)) l 0 [] _ (by simpa using hsz) (fun j k e => by simpa using hit j k e) (hnew.push _) ⟨_, Heap.get?_push_size _ rfl, rfl, rfl⟩ (hL₁.push _) (by simpa using hlen) fun h' tk htk hd hk => ?_
  refine h h' tk htk hd fun b o e => hk b o (Nat.ne_of_lt (Heap.lt_size e)) (hI ▸ Nat.ne_of_lt (Nat.lt_succ_of_lt (Heap.lt_size e))) (Heap.get?_push_of_some _ (Heap.get?_push_of_some _ e))
end
end FK
end

section
open AutoSeq1 (wpAny_loadPart')
section
variable {prog : Program} {w : World} {K : Type} [DecidableEq K] {knd : KeyKind prog w K} {A : Around} {E : Value → Shared → Prop} {s : Shared}
theorem any_bool {M : Model} {Q : Bool → Shared → Prop} {b : Bool} (h : ∀ b, Q b s) : wpAny M A (pure b) Q E s := wpAny_pure (h b)
theorem enum_newD (d : Addr) (lo : (d == sysModules) = false) (kvs : List (K × Value)) (ep : Nat) :
    MeetsIn prog w (Builtin.«enumerate.__new__» ⟨[.type "enumerate", .ref d], []⟩) (fun _ R s => s.heap.DictAt knd d kvs ep ∧
      R (.ok (.ret (.ref (s.heap.push { cls := .type "dict_keyiterator", data := .fields #[.ref d, .int 0 0, .int kvs.length 0, .int ep 0] }).objs.size)))
        { s with heap := (s.heap.push { cls := .type "dict_keyiterator", data := .fields #[.ref d, .int 0 0, .int kvs.length 0, .int ep 0] }).push { cls := .type "enumerate", data := .fields #[.none, .bool false, .ref s.heap.objs.size, rawInt 0, .none, .none] } }) :=
  .of_wp fun A R s h => by
    obtain ⟨hp, g, dr, tk, os⟩ := s; obtain ⟨hL, h⟩ := h
    obtain ⟨⟨cl, dct, dt, sl⟩, es, hl, ⟨hc1, hc2, hc3⟩, hdat, r⟩ := id hL
    dsimp only at hc1 hc2 hc3 hdat hl
    subst hc1 hc2 hc3 hdat
    have hsub := sub_enumerate
    have hit : ∀ {A : Around} {E : Value → Shared → Prop} {Q : Value → Shared → Prop}, Q (.ref hp.objs.size) ⟨hp.push { cls := .type "dict_keyiterator", data := .fields #[.ref d, .int 0 0, .int kvs.length 0, .int ep 0] }, g, dr, tk, os⟩ → wpAny (model prog w) A (pyIter (.ref d)) Q E ⟨hp, g, dr, tk, os⟩ := fun h => wpAny_pyIter_dict lo hL h
    wp_walk using wpAny_loadPart' hl
    refine wpAny_stack_any fun st => any_bool fun b => ?_
    cases b
    · wp_walk using wpAny_loadPart' hl, hit
      exact ⟨_, rfl, h⟩
    · wp_walk using wpAny_loadPart' hl, hit
      exact ⟨_, rfl, h⟩
theorem bne_self (a b : Int) (h : a = b) : (a != b) = false := by rw [h]; exact bne_self_eq_false b
theorem nextOf_key {it d : Addr} {i ep : Nat} {kvs : List (K × Value)} {k : K} {v : Value} {Q : Value → Shared → Prop} (hit : s.heap.IsKeyIter it d i kvs.length ep)
    (hm : s.heap.DictAt knd d kvs ep) (hx : kvs[i]? = some (k, v))
    (hQ : ∀ key h', knd.is k key = true → h'.IsKeyIter it d (i + 1) kvs.length ep → Heap.SameBut it s.heap h' → Q key { s with heap := h' }) :
    wpAny (model prog w) A (Builtin.SmallTypes.nextOf (.ref it)) Q E s := by
  have T := hit.typeIs
  obtain ⟨o, ho, hc, hd⟩ := id hit
  obtain ⟨od, es, hod, hcd, hdd, hk, hp, hn⟩ := id hm
  have hsz : es.size = kvs.length := by rw [← hp.length]; simp
  have hlt' : i < es.size := by
    rw [hsz]
    rcases Nat.lt_or_ge i kvs.length with h | h
    · exact h
    · rw [List.getElem?_eq_none h] at hx; cases hx
  have hkey : knd.is k es[i].key = true := (hp.get? (e := es[i]) (by simp [hlt']) hx).1
  unfold Builtin.SmallTypes.nextOf
  refine wpAny_bind (wpAny_callSpecial?_slot (name := Str.ofString "__next__") T F.slot_dict_keyiterator_next
    (wpAny_call_entry F.slot_dict_keyiterator_next T F.entry_dict_keyiterator_next ?_ (F.args_dict_keyiterator_next_1 _)))
  refine wbp (wpAny_bind (wpAny_bind ?_))
  first | refine wpAny_bind (wpAny_typeNameOfWhole_keyiter T (wpAny_pure ?_)) | refine wpAny_bind (wpAny_typeNameOf_keyiter T (wpAny_pure ?_))
  refine wpAny_bind (wpAny_fieldsOf ho hd ?_)
  refine (wpAny_ite_false (c := (Value.ref d == Value.none) = true) rfl ?_ : wpAny _ _ (if (Value.ref d == Value.none) = true then _ else _) _ _ s)
  refine wbp (wpAny_bind (wpAny_dictEntries hod hdd (wpAny_ite_false (decide_eq_false (ne_true_of_eq_false (bne_self _ _ (congrArg Int.ofNat hsz)))) ?_)))
  refine wbp (wpAny_bind (wpAny_dictEpoch hod hdd (wpAny_ite_false (decide_eq_false (ne_true_of_eq_false (bne_self _ _ rfl))) (wpAny_pure ?_))))
  have hm' : (if (i : Int) < 0 then none else es[(i : Int).toNat]?) = some es[i] := by rw [if_neg (Int.not_lt.mpr (Int.natCast_nonneg i)), Int.toNat_natCast, Array.getElem?_eq_getElem hlt']
  dsimp only
  rw [hm']
  refine wpAny_bind ?_
  first | refine wpAny_bind (wpAny_typeNameOfWhole_keyiter T (wpAny_pure ?_)) | refine wpAny_bind (wpAny_typeNameOf_keyiter T (wpAny_pure ?_))
  refine wpAny_bind (wpAny_isOneOf_keyiter T ?_)
  show wpAny _ _ (setField (.ref it) 1 (rawInt ((i : Int) + 1)) >>= _) _ _ s
  refine wpAny_bind (wpAny_setField ho hd (by simp) ?_)
  have hit' : (s.heap.update it (Obj.mapFields (·.setIfInBounds 1 (rawInt ((i : Int) + 1))))).IsKeyIter it d (i + 1) kvs.length ep :=
    ⟨_, Heap.get?_update_self _ ho (Obj.isFreed_of_fields (Obj.data_mapFields hd _)), (Obj.cls_mapFields ..).trans hc, by rw [Obj.data_mapFields hd]; simp [rawInt]⟩
  refine wbh (wpAny_bind (wpAny_isOneOf_keyiter (s := { s with heap := s.heap.update it (Obj.mapFields (·.setIfInBounds 1 (rawInt ((i : Int) + 1)))) }) hit'.typeIs ?_))
  show wpAny _ _ (pure es[i].key) _ _ _
  exact wpAny_pure (wpAny_pure ⟨_, rfl, wpAny_pure (hQ _ _ hkey hit' (Heap.SameBut.update ..))⟩)
theorem nextOf_key_end {it d : Addr} {i ep : Nat} {kvs : List (K × Value)} {Q : Value → Shared → Prop} (hh : A.handled = none) (hit : s.heap.IsKeyIter it d i kvs.length ep)
    (hm : s.heap.DictAt knd d kvs ep) (hx : kvs[i]? = none)
    (hE : ∀ h' e, Heap.ExtBut it s.heap h' → (∃ o, h'.get? e = some o ∧ o.cls = .type "StopIteration") → E (.ref e) { s with heap := h' }) :
    wpAny (model prog w) A (Builtin.SmallTypes.nextOf (.ref it)) Q E s := by
  have T := hit.typeIs
  obtain ⟨o, ho, hc, hd⟩ := id hit
  obtain ⟨od, es, hod, hcd, hdd, hk, hp, hn⟩ := id hm
  have hsz : es.size = kvs.length := by rw [← hp.length]; simp
  have hge : es.size ≤ i := by rw [hsz]; simpa using hx
  unfold Builtin.SmallTypes.nextOf
  refine wpAny_bind (wpAny_callSpecial?_slot (name := Str.ofString "__next__") T F.slot_dict_keyiterator_next
    (wpAny_call_entry F.slot_dict_keyiterator_next T F.entry_dict_keyiterator_next ?_ (F.args_dict_keyiterator_next_1 _)))
  refine wbp (wpAny_bind (wpAny_bind ?_))
  first | refine wpAny_bind (wpAny_typeNameOfWhole_keyiter T (wpAny_pure ?_)) | refine wpAny_bind (wpAny_typeNameOf_keyiter T (wpAny_pure ?_))
  refine wpAny_bind (wpAny_fieldsOf ho hd ?_)
  refine (wpAny_ite_false (c := (Value.ref d == Value.none) = true) rfl ?_ : wpAny _ _ (if (Value.ref d == Value.none) = true then _ else _) _ _ s)
  refine wbp (wpAny_bind (wpAny_dictEntries hod hdd (wpAny_ite_false (decide_eq_false (ne_true_of_eq_false (bne_self _ _ (congrArg Int.ofNat hsz)))) ?_)))
  refine wbp (wpAny_bind (wpAny_dictEpoch hod hdd (wpAny_ite_false (decide_eq_false (ne_true_of_eq_false (bne_self _ _ rfl))) (wpAny_pure ?_))))
  have hm' : (if (i : Int) < 0 then none else es[(i : Int).toNat]?) = none := by rw [if_neg (Int.not_lt.mpr (Int.natCast_nonneg i)), Int.toNat_natCast, Array.getElem?_eq_none hge]
  dsimp only
  rw [hm']
  refine wpAny_bind ?_
  first | refine wpAny_bind (wpAny_typeNameOfWhole_keyiter T (wpAny_pure ?_)) | refine wpAny_bind (wpAny_typeNameOf_keyiter T (wpAny_pure ?_))
  show wpAny _ _ (setField (.ref it) 0 .none >>= _) _ _ s
  refine wpAny_bind (wpAny_setField ho hd (by simp) ?_)
  show wpAny _ _ (newExc (.type "StopIteration") [] >>= _) _ _ _
  refine wpAny_bind ?_
  simp only [newExc, newTuple]
  refine wpAny_bind (wpAny_newObj_type ?_ (by size_fits))
  refine wpAny_bind (m := firstArgMember _ _) (wpAny_of_eq (a := Value.none) (by first | rfl | (simp only [firstArgMember]; rfl)) ?_)
  refine wpAny_newObj_type ?_ (by size_fits)
  simp only [raiseNew]
  refine wpAny_bind (wpAny_handled ?_)
  first | rw [show A.in1.handled = none from hh] | rw [hh]
  refine wbp (wpAny_throw ?_)
  exact hE _ _ (((Heap.SameBut.update ..).extBut.push _).push _) ⟨_, Heap.get?_push_size _ rfl, rfl⟩
theorem drawsKeys (hh : A.handled = none) (I d : Addr) (hne : d ≠ I) (kvs : List (K × Value)) (ep : Nat) :
    Draws prog w A I [I, d] kvs.length (fun i v => ∃ k x, kvs[i]? = some (k, x) ∧ knd.is k v = true) (fun i h => h.IsKeyIter I d i kvs.length ep ∧ h.DictAt knd d kvs ep) where
  live := fun _ _ st => let ⟨o, ho, _⟩ := st.1; ⟨o, ho⟩
  frame := fun _ _ _ st hk => ⟨st.1.at fun o e => hk I (by simp) o e, st.2.at' fun o e => hk d (by simp) o e⟩
  item := fun i s Q E hi st hQ => by
    obtain ⟨⟨k, x⟩, hx⟩ : ∃ p, kvs[i]? = some p := ⟨kvs[i], by simp [hi]⟩
    exact nextOf_key st.1 st.2 hx fun key h' hkey hit' hs' => hQ key h' s.toks ⟨k, x, hx, hkey⟩ ⟨hit', st.2.extBut hs'.extBut hne⟩ hs'
  done := fun s Q E st hE => nextOf_key_end hh st.1 st.2 (by simp) hE
theorem call_enum_dict {d : Addr} {kvs : List (K × Value)} {ep : Nat} {Q : Value → Shared → Prop} (lo : (d == sysModules) = false) (hm : s.heap.DictAt knd d kvs ep)
    (h : ∀ h', IsEnum h' (s.heap.objs.size + 1) s.heap.objs.size 0 .none → h'.IsKeyIter s.heap.objs.size d 0 kvs.length ep → h'.objs.size = s.heap.objs.size + 2 →
      (∀ b o, s.heap.get? b = some o → h'.get? b = some o) → Q (.ref (s.heap.objs.size + 1)) { s with heap := h' }) :
    wpAny (model prog w) A (call (.type "enumerate") [.ref d]) Q E s := by
  refine callType_newIn F.called_enumerate (by decide) (F.typeCall_enumerate_1 _) (F.newCall_enumerate_1 _) (fun obj => F.args_object_init_2 obj _) F.entry_enumerate_new
    (enum_newD (knd := knd) d lo kvs ep) ⟨hm, ?_⟩
  generalize hob : ({ cls := .type "dict_keyiterator", data := .fields #[.ref d, .int 0 0, .int kvs.length 0, .int ep 0] } : Obj) = ob
  have hz : (s.heap.push ob).objs.size = s.heap.objs.size + 1 := Heap.size_push ..
  have hfr : ob.isFreed = false := by rw [← hob]; rfl
  show _ ∧ _
  rw [hz]
  have he : IsEnum ((s.heap.push ob).push
      { cls := .type "enumerate", data := .fields #[.none, .bool false, .ref s.heap.objs.size, rawInt 0, .none, .none] }) (s.heap.objs.size + 1) s.heap.objs.size 0 .none := by
    have := Heap.get?_push_size (s.heap.push ob) (o := { cls := .type "enumerate", data := .fields #[.none, .bool false, .ref s.heap.objs.size, rawInt 0, .none, .none] }) rfl
    rw [hz] at this; exact this
  refine ⟨⟨_, he, rfl⟩, h _ he ⟨ob, Heap.get?_push_of_some _ (Heap.get?_push_size _ hfr), by rw [← hob], by rw [← hob]; rfl⟩ (by rw [Heap.size_push, hz]) fun b o x => Heap.get?_push_of_some _ (Heap.get?_push_of_some _ x)⟩
end
end

section
noncomputable abbrev PH (_w : World) := Addr → Option Obj

noncomputable abbrev Pw := PySem.Challenge.pw_in0256_01

inductive PV where
  | none | bool (b : Bool) | int (i : Int) | str (x : Str)
  | list (xs : List PV) | tuple (xs : List PV) | dict (es : List (Str × PV))
  | raw (v : Value) | obj | iset (b : Nat)


noncomputable abbrev lobj (vs : List Value) (n : Nat) : Obj := { cls := .type "list", data := .seq vs.toArray n }
noncomputable abbrev tobj (vs : List Value) (n : Nat) : Obj := { cls := .type "tuple", data := .seq vs.toArray n }
noncomputable def DictO (w : World) (o : Obj) (kvs : List (Str × Value)) : Prop :=
  ∃ es ep, o.ExactDict ∧ o.data = .dict es ep ∧ KeysOf (strKind Pw w) es ∧ Pairs (strKind Pw w) es.toList kvs ∧ (kvs.map (·.1)).Nodup

theorem DictO.nf {w : World} {o : Obj} {kvs} (h : DictO w o kvs) : ∀ vs, o.data ≠ .fields vs := by
  obtain ⟨es, ep, _, hd, _⟩ := h
  rw [hd]; intro vs h; cases h

noncomputable abbrev bitsL (b : Nat) : List Nat := (List.range 8).filter b.testBit
noncomputable abbrev esOf (S : List Nat) (tk : Nat → Nat) : Array (Int × Value) := (S.map fun k : Nat => ((k : Int), Value.int (k : Int) (tk k))).toArray
noncomputable abbrev tbOf (S : List Nat) (m : Nat) (led : Bool) (mv : Nat) : SetTable := { mask := m, place := S.toArray, dummies := #[], finger := 0, led := led, moves := mv, plain := true }
noncomputable def MaskOk (m b : Nat) : Prop := (m = 7 ∧ (bitsL b).length ≤ 4) ∨ m = 15 ∨ m = 31 ∨ m = 63
noncomputable abbrev ledOf (w : World) : Bool := !(w.params.followText "set-order")
noncomputable def IsetO (w : World) (o : Obj) (b : Nat) : Prop :=
  b < 256 ∧ o.ExactSet ∧ ∃ ep tk m mv, o.data = .set (esOf (bitsL b) tk) ep (tbOf (bitsL b) m (ledOf w) mv) ∧ MaskOk m b

mutual
noncomputable def Holds (G : PH w) : PV → Value → Prop
  | .none, V => V = .none
  | .bool b, V => V = .bool b
  | .int i, V => ∃ t, V = .int i t
  | .str x, V => ∃ t, V = .str x t
  | .raw v, V => V = v
  | .obj, V => ∃ a, V = .ref a
  | .iset b, V => ∃ a o, V = .ref a ∧ G a = some o ∧ IsetO w o b
  | .list xs, V => ∃ a vs n, V = .ref a ∧ G a = some (lobj vs n) ∧ HoldsL G xs vs
  | .tuple xs, V => ∃ a vs n, V = .ref a ∧ G a = some (tobj vs n) ∧ HoldsL G xs vs
  | .dict es, V => ∃ a o kvs, V = .ref a ∧ G a = some o ∧ (86 < a ∧ DictO w o kvs) ∧ HoldsD G es kvs
noncomputable def HoldsL (G : PH w) : List PV → List Value → Prop
  | [], vs => vs = []
  | x :: xs, vs => ∃ v r, vs = v :: r ∧ Holds G x v ∧ HoldsL G xs r
noncomputable def HoldsD (G : PH w) : List (Str × PV) → List (Str × Value) → Prop
  | [], ds => ds = []
  | (k, x) :: es, ds => ∃ v r, ds = (k, v) :: r ∧ Holds G x v ∧ HoldsD G es r
end

theorem cons_of {G : PH w} {x xs v r} (h : Holds G x v) (hr : HoldsL G xs r) : HoldsL G (x :: xs) (v :: r) := ⟨v, r, rfl, h, hr⟩

mutual
theorem Holds.mono {G G' : PH w} (k : ∀ b o, G b = some o → G' b = some o) : ∀ {x : PV} {V : Value}, Holds G x V → Holds G' x V
  | .none, _, h => h
  | .bool _, _, h => h
  | .int _, _, h => h
  | .str _, _, h => h
  | .raw _, _, h => h
  | .obj, _, h => h
  | .iset _, _, h => let ⟨a, o, e, g, q⟩ := h; ⟨a, o, e, k _ _ g, q⟩
  | .list _, _, h => let ⟨a, vs, n, e, g, r⟩ := h; ⟨a, vs, n, e, k _ _ g, HoldsL.mono k r⟩
  | .tuple _, _, h => let ⟨a, vs, n, e, g, r⟩ := h; ⟨a, vs, n, e, k _ _ g, HoldsL.mono k r⟩
  | .dict _, _, h => let ⟨a, vs, n, e, g, q, r⟩ := h; ⟨a, vs, n, e, k _ _ g, q, HoldsD.mono k r⟩
theorem HoldsL.mono {G G' : PH w} (k : ∀ b o, G b = some o → G' b = some o) : ∀ {xs : List PV} {vs : List Value}, HoldsL G xs vs → HoldsL G' xs vs
  | [], _, h => h
  | _ :: _, _, h => let ⟨v, r, e, a, b⟩ := h; ⟨v, r, e, Holds.mono k a, HoldsL.mono k b⟩
theorem HoldsD.mono {G G' : PH w} (k : ∀ b o, G b = some o → G' b = some o) : ∀ {xs : List (Str × PV)} {vs : List (Str × Value)}, HoldsD G xs vs → HoldsD G' xs vs
  | [], _, h => h
  | (_, _) :: _, _, h => let ⟨v, r, e, a, b⟩ := h; ⟨v, r, e, Holds.mono k a, HoldsD.mono k b⟩
end

theorem HoldsL.length {G : PH w} : ∀ {xs : List PV} {vs : List Value}, HoldsL G xs vs → vs.length = xs.length
  | [], _, h => by rw [show _ = [] from h]; rfl
  | _ :: _, _, h => by obtain ⟨v, r, rfl, _, h2⟩ := h; simp [HoldsL.length h2]

structure Ctx0 where
  w : World
  hb : Heap
  mg : Str → Option Value
  mb : Str → Option Value
  tk0 : Nat := 0

noncomputable abbrev Ctx0.M (c : Ctx0) : Model := model Pw c.w

noncomputable def FS (A : Around) : List Addr := (A.frames.getD []).filterMap (·.frame)

structure Rm (d : Nat) (A : Around) : Prop where
  handled : A.handled = none
  frames : ∃ F, A.frames = some F ∧ ∀ env ∈ F, env.scope.kind = .function ∧ env.frame.isSome = true
  depth : A.depth + d < recursionLimit
  units : A.units + 8 * d + 40 < cLine

noncomputable abbrev lamPos : Pos := ⟨90, 39, 90, 76⟩
noncomputable abbrev lamQual : Str := "_translate.<locals>.<lambda>"
noncomputable def RecG (G : Addr → Option Obj) (cv : Value) : Prop := ∃ a o vs t, cv = .ref a ∧ G a = some o ∧ o.data = .fields vs ∧ vs[1]? = some (.str lamQual t)
noncomputable def TabT (G : Addr → Option Obj) (ps : Array Value) : Prop := TriplesOk ps.toList ∧ ∀ cv, codeAmong lamPos ps.toList = some cv → RecG G cv
theorem TabT.mono {G G' : Addr → Option Obj} {ps} (x : TabT G ps) (k : ∀ b o, G b = some o → G' b = some o) : TabT G' ps :=
  ⟨x.1, fun cv e => let ⟨a, o, vs, t, e1, e2, r⟩ := x.2 cv e; ⟨a, o, vs, t, e1, k _ _ e2, r⟩⟩
noncomputable def TabOk (G : Addr → Option Obj) (h : Heap) : Prop := ∃ ps, h.get? 86 = some (tabObj ps) ∧ TabT G ps
theorem TabOk.mono {G G' : Addr → Option Obj} {h} (x : TabOk G h) (k : ∀ b o, G b = some o → G' b = some o) : TabOk G' h := let ⟨ps, e, t⟩ := x; ⟨ps, e, t.mono k⟩

structure GS (c : Ctx0) (A : Around) (G : Addr → Option Obj) (s : Shared) : Prop where
  hb : ∀ b o, c.hb.get? b = some o → G b = some o
  sub : ∀ b o, G b = some o → s.heap.get? b = some o
  fs : ∀ L ∈ FS A, G L = none ∧ ∃ o, s.heap.get? L = some o ∧ ∀ vs, o.data ≠ .fields vs
  t86 : G 86 = none
  tab : TabOk G s.heap
  tk : c.tk0 ≤ s.toks

noncomputable abbrev Bel (s : Shared) : Addr → Prop := fun b => ∃ o, s.heap.get? b = some o

structure Step (A : Around) (n₀ : Addr → Prop) (G : Addr → Option Obj) (s : Shared) (G' : Addr → Option Obj) (s' : Shared) : Prop where
  sub : ∀ b o, G' b = some o → s'.heap.get? b = some o
  le : ∀ b o, G b = some o → G' b = some o
  new : ∀ b, G b = none → G' b ≠ none → ¬ n₀ b
  keep : ∀ b o, n₀ b → s.heap.get? b = some o → b ≠ 86 → b ∉ FS A → s'.heap.get? b = some o
  fr : ∀ b o, n₀ b → s.heap.get? b = some o → b ≠ 86 → ∃ sl, s'.heap.get? b = some { o with slots := sl }
  os : s'.os = s.os
  gens : AllBare s.gens → AllBare s'.gens
  tab : TabOk G' s'.heap
  tk : s.toks ≤ s'.toks

theorem Step.trans {A n₀ G s G₁ s₁ G₂ s₂} (x : Step A n₀ G s G₁ s₁) (y : Step A n₀ G₁ s₁ G₂ s₂) : Step A n₀ G s G₂ s₂ where
  sub := y.sub
  le := fun b o e => y.le b o (x.le b o e)
  new := fun b h1 h2 => by
    cases e : G₁ b with
    | none => exact y.new b e h2
    | some o => exact x.new b h1 (by rw [e]; simp)
  keep := fun b o hb e h86 hf => y.keep b o hb (x.keep b o hb e h86 hf) h86 hf
  fr := fun b o hb e h86 => by
    obtain ⟨sl, e1⟩ := x.fr b o hb e h86
    obtain ⟨sl2, e2⟩ := y.fr b _ hb e1 h86
    exact ⟨sl2, e2⟩
  os := y.os.trans x.os
  gens := fun h => y.gens (x.gens h)
  tab := y.tab
  tk := Nat.le_trans x.tk y.tk

theorem Step.up {A} {n₁ n₀ : Addr → Prop} {G s G' s'} (x : Step A n₁ G s G' s') (h : ∀ b, n₀ b → n₁ b) : Step A n₀ G s G' s' :=
  { x with new := fun b h1 h2 q => x.new b h1 h2 (h b q), keep := fun b o hb => x.keep b o (h b hb), fr := fun b o hb => x.fr b o (h b hb) }

theorem Step.alive {A G s G' s'} (x : Step A (Bel s) G s G' s') {b : Addr} (h : Bel s b) : Bel s' b := by
  by_cases q : b = 86
  · subst q; obtain ⟨_, h1, _⟩ := x.tab; exact ⟨_, h1⟩
  · obtain ⟨o, e⟩ := h
    obtain ⟨sl, e1⟩ := x.fr b o ⟨o, e⟩ e q
    exact ⟨_, e1⟩

theorem GS.step {c A n₀ G s G' s'} (g : GS c A G s) (x : Step A n₀ G s G' s') (hn : ∀ L ∈ FS A, n₀ L) (h86 : n₀ 86) : GS c A G' s' where
  hb := fun b o e => x.le b o (g.hb b o e)
  sub := x.sub
  fs := fun L hL => by
    obtain ⟨g1, o, e, hd⟩ := g.fs L hL
    refine ⟨?_, ?_⟩
    · cases e2 : G' L with
      | none => rfl
      | some o' => exact absurd (hn L hL) (x.new L g1 (by rw [e2]; simp))
    · by_cases h : L = 86
      · obtain ⟨ps, h1, _⟩ := g.tab
        rw [h] at e
        rw [e] at h1
        cases h1
        exact absurd rfl (hd ps)
      · obtain ⟨sl, e1⟩ := x.fr L o (hn L hL) e h
        exact ⟨_, e1, hd⟩
  t86 := by
    cases e2 : G' 86 with
    | none => rfl
    | some o' => exact absurd h86 (x.new 86 g.t86 (by rw [e2]; simp))
  tab := x.tab
  tk := Nat.le_trans g.tk x.tk

inductive NK where
  | loc | own | cap
  deriving DecidableEq

inductive Slot where
  | un | val (v : PV) | own (xs : List PV) | odict (es : List (Str × PV)) | meth (id : String) (j : Nat)


noncomputable abbrev bmobj (id : String) (a : Addr) : Obj := { cls := .type "builtin_function_or_method", data := .fields #[.builtin id, .ref a] }

noncomputable def SlotR (L : Addr) (A : Around) (n₀ : Addr → Prop) (G : PH w) (h : Heap) (V : Nat → Option Value) : Slot → Option Value → Prop
  | .un, _ => True
  | .val v, V => ∃ x, V = some x ∧ Holds G v x
  | .own xs, V => ∃ a vs n, V = some (.ref a) ∧ G a = none ∧ a ≠ L ∧ a ∉ FS A ∧ ¬ n₀ a ∧ h.get? a = some (lobj vs n) ∧ HoldsL G xs vs
  | .odict es, V => ∃ a o kvs, V = some (.ref a) ∧ G a = none ∧ a ≠ L ∧ a ∉ FS A ∧ ¬ n₀ a ∧ h.get? a = some o ∧ (86 < a ∧ DictO w o kvs) ∧ HoldsD G es kvs
  | .meth id j, W => ∃ a b, W = some (.ref b) ∧ V j = some (.ref a) ∧ G b = some (bmobj id a)

noncomputable def Slot.owned : Slot → Bool
  | .own _ | .odict _ => true
  | _ => false

structure StV (c : Ctx0) (ns : List (Str × NK)) (env : Env) (Γ : List Slot) (A : Around) (n₀ : Addr → Prop) (G : PH c.w) (s : Shared) (V : Nat → Option Value) : Prop where
  gs : GS c A G s
  base : n₀ 86
  bel : ∀ b, n₀ b → ∃ o, s.heap.get? b = some o
  fsl : ∀ L ∈ FS A, n₀ L ∨ L = env.locals
  loc : ∃ m, s.heap.Ns env.locals m ∧ ∀ (i : Nat) x, ns[i]? = some (x, NK.loc) → m x = V i
  lL : G env.locals = none ∧ ¬ n₀ env.locals
  cel : ∀ (i : Nat) x k, ns[i]? = some (x, k) → k ≠ NK.loc → ∃ a, env.cells.lookup x = some a ∧ s.heap.IsCell a (V i) ∧ (k = NK.own → G a = none ∧ ¬ n₀ a)
  slot : ∀ i sl, Γ[i]? = some sl → SlotR env.locals A n₀ G s.heap V sl (V i)
  apart : ∀ i j x y, i ≠ j → Γ[i]? = some x → Γ[j]? = some y → x.owned = true → y.owned = true → V i ≠ V j

noncomputable def St (c : Ctx0) (ns : List (Str × NK)) (env : Env) (Γ : List Slot) (A : Around) (n₀ : Addr → Prop) (G : PH c.w) (s : Shared) : Prop := ∃ V, StV c ns env Γ A n₀ G s V

structure EnvOK (ns : List (Str × NK)) (env : Env) : Prop where
  fn : env.scope.kind = .function
  loc : ∀ (i : Nat) x, ns[i]? = some (x, NK.loc) → env.kindOf x = some .local
  own : ∀ (i : Nat) x, ns[i]? = some (x, NK.own) → env.kindOf x = some .cell
  cap : ∀ (i : Nat) x, ns[i]? = some (x, NK.cap) → (env.kindOf x = some .cell ∨ env.kindOf x = some .free) ∧ (x == ("__classdict__" : Str)) = false
  nodup : (ns.map (·.1)).Nodup
  dbg : ∀ (i : Nat) x k, ns[i]? = some (x, k) → (x == ("__debug__" : Str)) = false
  apart : env.cells.Pairwise fun x y => x.2 ≠ y.2
  globals : env.globals = mainGlobals
  builtins : env.builtins = builtinsNs

theorem FS_lt {c A G s} (g : GS c A G s) {L : Addr} (hL : L ∈ FS A) : Bel s L := by
  obtain ⟨_, o, e, _⟩ := g.fs L hL
  exact ⟨o, e⟩

theorem GS.stepE {c A G s G' s'} (g : GS c A G s) (x : Step A (Bel s) G s G' s') (_h86 : 86 < s.heap.objs.size) : GS c A G' s' :=
  g.step x (fun _ hL => FS_lt g hL) (let ⟨_, h1, _⟩ := g.tab; ⟨_, h1⟩)

theorem tab_not {G : Addr → Option Obj} {h : Heap} (t : TabOk G h) {b : Addr} {o : Obj} (e : h.get? b = some o) (hd : ∀ vs, o.data ≠ .fields vs) : b ≠ 86 := by
  rintro rfl
  obtain ⟨ps, h1, _⟩ := t
  rw [e] at h1
  cases h1
  exact hd _ rfl

theorem ns_of_fr {h h' : Heap} {L : Addr} {m} (hn : h.Ns L m) (k : ∀ o, h.get? L = some o → ∃ sl, h'.get? L = some { o with slots := sl }) : h'.Ns L m := by
  obtain ⟨o, es, ep, ho, hd, hk, hm⟩ := hn
  obtain ⟨sl, e⟩ := k o ho
  exact ⟨_, es, ep, e, hd, hk, hm⟩

theorem cell_of_fr {h h' : Heap} {a : Addr} {v} (hc : h.IsCell a v) (k : ∀ o, h.get? a = some o → ∃ sl, h'.get? a = some { o with slots := sl }) : h'.IsCell a v := by
  obtain ⟨o, ho, hd⟩ := hc
  obtain ⟨sl, e⟩ := k o ho
  exact ⟨_, e, hd⟩

theorem ns_obj0 {h : Heap} {L m} (hn : h.Ns L m) : ∃ o, h.get? L = some o ∧ True := by
  obtain ⟨o, es, ep, ho, _⟩ := hn
  exact ⟨o, ho, trivial⟩

theorem StV.step {c ns env Γ A n₀ G s V G' s'} (S : StV c ns env Γ A n₀ G s V) (x : Step A (Bel s) G s G' s') : StV c ns env Γ A n₀ G' s' V := by
  have hsz : 86 < s.heap.objs.size := by
    obtain ⟨ps, h1, _⟩ := S.gs.tab
    exact Heap.lt_size h1
  have none' : ∀ {b : Addr}, Bel s b → G b = none → G' b = none := fun {b} hb e => by
    cases e2 : G' b with
    | none => rfl
    | some o' => exact absurd hb (x.new b e (by rw [e2]; simp))
  have fr' : ∀ {b : Addr} {o : Obj}, s.heap.get? b = some o → (∀ vs, o.data ≠ .fields vs) → ∃ sl, s'.heap.get? b = some { o with slots := sl } := fun {b o} e hd =>
    x.fr b o ⟨o, e⟩ e (tab_not S.gs.tab e hd)
  refine ⟨S.gs.stepE x hsz, S.base, fun b hb => x.alive (S.bel b hb), S.fsl, ?_, ?_, ?_, ?_, S.apart⟩
  · obtain ⟨m, hn, hm⟩ := S.loc
    refine ⟨m, ns_of_fr hn fun o e => ?_, hm⟩
    obtain ⟨o', es, ep, ho, hd, _⟩ := hn
    rw [e] at ho; cases ho
    exact fr' e (by rw [hd]; intro vs h; cases h)
  · obtain ⟨m, hn, _⟩ := S.loc
    exact ⟨none' (let ⟨o, h, _⟩ := ns_obj0 hn; ⟨o, h⟩) S.lL.1, S.lL.2⟩
  · intro i y k hi hk
    obtain ⟨a, h1, h2, h3⟩ := S.cel i y k hi hk
    refine ⟨a, h1, cell_of_fr h2 fun o e => ?_, fun hko => ⟨none' (let ⟨o, h, _⟩ := h2; ⟨o, h⟩) (h3 hko).1, (h3 hko).2⟩⟩
    obtain ⟨o', ho, hd⟩ := h2
    rw [e] at ho; cases ho
    exact fr' e (by rw [hd]; intro vs h; cases h)
  · intro i sl hi
    have z := S.slot i sl hi
    cases sl with
    | un => trivial
    | val v => obtain ⟨y, e, hv⟩ := z; exact ⟨y, e, hv.mono x.le⟩
    | own xs =>
      obtain ⟨a, vs, n, e, g, hL, hf, hn, hg, hv⟩ := z
      refine ⟨a, vs, n, e, none' ⟨_, hg⟩ g, hL, hf, hn, ?_, hv.mono x.le⟩
      exact x.keep a _ ⟨_, hg⟩ hg (tab_not S.gs.tab hg (by intro vs h; cases h)) hf
    | odict xs =>
      obtain ⟨a, o, kvs, e, g, hL, hf, hn, hg, hq, hv⟩ := z
      refine ⟨a, o, kvs, e, none' ⟨_, hg⟩ g, hL, hf, hn, ?_, hq, hv.mono x.le⟩
      exact x.keep a _ ⟨_, hg⟩ hg (tab_not S.gs.tab hg hq.2.nf) hf
    | meth id j => obtain ⟨a, b, e1, e2, e3⟩ := z; exact ⟨a, b, e1, e2, x.le _ _ e3⟩

theorem St.step {c ns env Γ A n₀ G s G' s'} (S : St c ns env Γ A n₀ G s) (x : Step A (Bel s) G s G' s') : St c ns env Γ A n₀ G' s' :=
  let ⟨V, h⟩ := S; ⟨V, h.step x⟩

theorem Step.refl {c A G s} {n₀ : Addr → Prop} (g : GS c A G s) : Step A n₀ G s G s where
  sub := g.sub
  le := fun _ _ e => e
  new := fun b h1 h2 => absurd h1 h2
  keep := fun _ _ _ e _ _ => e
  fr := fun b o _ e _ => ⟨o.slots, e⟩
  os := rfl
  gens := id
  tab := g.tab
  tk := Nat.le_refl _

theorem Step.toks {A n₀ G s G' s'} (x : Step A n₀ G s G' s') (tk : Nat) (h : s'.toks ≤ tk) : Step A n₀ G s G' { s' with toks := tk } := ⟨x.sub, x.le, x.new, x.keep, x.fr, x.os, x.gens, x.tab, Nat.le_trans x.tk h⟩

structure EX (c : Ctx0) (d : Nat) (ns : List (Str × NK)) (env : Env) (Γ : List Slot) (e : PySem.Expr) (v : PV) : Prop where
  run : ∀ (A : Around) (n₀ : Addr → Prop) (G : PH c.w) (s : Shared) (E : Value → Shared → Prop), Rm d A → St c ns env Γ A n₀ G s →
    wpAny c.M A (eval e env) (fun V s' => ∃ G' : PH c.w, Holds G' v V ∧ Step A (Bel s) G s G' s') E s

section
variable {c : Ctx0} {d : Nat} {ns : List (Str × NK)} {env : Env} {Γ : List Slot}
theorem EX_int {i k pos} : EX c d ns env Γ (.Constant (.int i) k pos) (.int i) := ⟨fun _ _ G _ _ _ S =>
  let ⟨_, h⟩ := S; wpAny_Constant_int ⟨G, ⟨_, rfl⟩, (Step.refl h.gs).toks _ (Nat.le_succ _)⟩⟩
theorem EX_str {i k pos} : EX c d ns env Γ (.Constant (.str i) k pos) (.str i) := ⟨fun _ _ G _ _ _ S =>
  let ⟨_, h⟩ := S; wpAny_Constant_str ⟨G, ⟨_, rfl⟩, (Step.refl h.gs).toks _ (Nat.le_succ _)⟩⟩
theorem EX_bool {b k pos} : EX c d ns env Γ (.Constant (.bool b) k pos) (.bool b) := ⟨fun _ _ G _ _ _ S =>
  let ⟨_, h⟩ := S; wpAny_Constant_bool ⟨G, rfl, Step.refl h.gs⟩⟩

theorem loadVar (ok : EnvOK ns env) {i : Nat} {x : Str} {k : NK} (hi : ns[i]? = some (x, k)) {A n₀ G s V} (S : StV c ns env Γ A n₀ G s V) {v : Value} (hv : V i = some v)
    {M : Model} {Q : Value → Shared → Prop} {E} (h : Q v s) : wpAny M A (loadName env x) Q E s := by
  cases k with
  | loc =>
    obtain ⟨m, hn, hm⟩ := S.loc
    exact wpAny_loadName_local ok.fn (ok.loc i x hi) hn ((hm i x hi).trans hv) h
  | own =>
    obtain ⟨a, h1, h2, _⟩ := S.cel i x .own hi (by decide)
    exact wpAny_loadName_cell ok.fn (ok.own i x hi) h1 (hv ▸ h2) h
  | cap =>
    obtain ⟨a, h1, h2, _⟩ := S.cel i x .cap hi (by decide)
    obtain ⟨q, hc⟩ := ok.cap i x hi
    rcases q with q | q
    · exact wpAny_loadName_cell ok.fn q h1 (hv ▸ h2) h
    · exact wpAny_loadName_free ok.fn q h1 (hv ▸ h2) h hc

theorem EX_name (ok : EnvOK ns env) (i : Nat) {x : Str} {k : NK} {pos} {v : PV} (hi : ns[i]? = some (x, k)) (hv : Γ[i]? = some (.val v)) : EX c d ns env Γ (.Name x pos) v := ⟨fun A n₀ G s E _ S => by
  obtain ⟨V, S⟩ := S
  obtain ⟨y, hy, hh⟩ := S.slot i _ hv
  exact wpAny_Name (loadVar ok hi S hy ⟨G, hh, Step.refl S.gs⟩) (ok.dbg i x k hi)⟩
end
end

section
theorem Step.then {A : Around} {G s G₁ s₁ G₂ s₂} (x : Step A (Bel s) G s G₁ s₁) (y : Step A (Bel s₁) G₁ s₁ G₂ s₂) : Step A (Bel s) G s G₂ s₂ := x.trans (y.up fun _ h => x.alive h)

noncomputable def Vis (A : Around) (h : Heap) : Addr → Option Obj := fun b => if b ∈ FS A ∨ b = 86 then none else h.get? b
theorem Vis.sub {A h b o} (e : Vis A h b = some o) : h.get? b = some o := by
  unfold Vis at e
  split at e
  · cases e
  · exact e
theorem Vis.step {A : Around} {G s G' s'} (x : Step A (Bel s) G s G' s') : ∀ b o, Vis A s.heap b = some o → Vis A s'.heap b = some o := fun b o e => by
  unfold Vis at e ⊢
  split at e
  · cases e
  · rename_i h
    rw [if_neg h]
    exact x.keep b o ⟨o, e⟩ e (fun q => h (.inr q)) (fun q => h (.inl q))
theorem GS.vis {c A G s} (g : GS c A G s) : ∀ b o, G b = some o → Vis A s.heap b = some o := fun b o e => by
  unfold Vis
  split
  · rename_i q
    rcases q with q | rfl
    · rw [(g.fs b q).1] at e; cases e
    · rw [g.t86] at e; cases e
  · exact g.sub b o e

noncomputable abbrev XP (A : Around) (G : PH w) (s : Shared) (v : PV) : Value → Shared → Prop := fun V s' => ∃ G' : PH w, Holds G' v V ∧ Step A (Bel s) G s G' s'
noncomputable abbrev XPL (A : Around) (G : PH w) (s : Shared) (vs : List PV) : List Value → Shared → Prop := fun V s' => ∃ G' : PH w, HoldsL G' vs V ∧ Step A (Bel s) G s G' s'
noncomputable abbrev XPT (A : Around) (G : PH w) (s : Shared) (v : PV) : Value → Shared → Prop := fun V s' => ∃ G' : PH w, Holds (w := w) (Vis A s'.heap) v V ∧ Step A (Bel s) G s G' s'
noncomputable abbrev XPB (A : Around) (G : PH w) (s : Shared) (b : Bool) : Bool → Shared → Prop := fun V s' => ∃ G' : PH w, V = b ∧ Step A (Bel s) G s G' s'
noncomputable abbrev XPU (A : Around) (G : PH w) (s : Shared) : Shared → Prop := fun s' => ∃ G' : PH w, Step A (Bel s) G s G' s'

theorem Step.tok {c A G s} (g : GS c A G s) (n : Addr → Prop) (tk : Nat) (h : s.toks ≤ tk) : Step A n G s G { s with toks := tk } := (Step.refl g).toks tk h

noncomputable def pin (G : Addr → Option Obj) (a : Addr) (o : Obj) : Addr → Option Obj := fun b => if b = a then some o else G b
theorem Step.push {c A G s} (g : GS c A G s) (o : Obj) (hf : o.isFreed = false) (tk : Nat) (htk : s.toks ≤ tk) :
    Step A (Bel s) G s (pin G s.heap.objs.size o) { s with heap := s.heap.push o, toks := tk } where
  sub := fun b o' e => by
    unfold pin at e
    split at e
    · rename_i h; cases e; subst h; exact Heap.get?_push_size _ hf
    · exact Heap.get?_push_of_some _ (g.sub b o' e)
  le := fun b o' e => by
    unfold pin
    have := Heap.lt_size (g.sub b o' e)
    rw [if_neg (Nat.ne_of_lt this)]; exact e
  new := fun b h1 h2 => by
    unfold pin at h2
    split at h2
    · rename_i h; rw [h]; rintro ⟨o', e'⟩; exact Nat.lt_irrefl _ (Heap.lt_size e')
    · exact absurd h1 h2
  keep := fun b o' _ e _ _ => Heap.get?_push_of_some _ e
  fr := fun b o' _ e _ => ⟨o'.slots, Heap.get?_push_of_some _ e⟩
  os := rfl
  gens := id
  tab := by
    obtain ⟨ps, h1, h2⟩ := g.tab
    exact ⟨ps, Heap.get?_push_of_some _ h1, h2.mono fun b o' e => by
      unfold pin
      rw [if_neg (Nat.ne_of_lt (Heap.lt_size (g.sub b o' e)))]; exact e⟩
  tk := htk
theorem pin_self {G a o} : pin G a o a = some o := by unfold pin; rw [if_pos rfl]
theorem pin_le {c A G s} (g : GS c A G s) (o : Obj) : ∀ b o', G b = some o' → pin G s.heap.objs.size o b = some o' := fun b o' e => by
  unfold pin
  rw [if_neg (Nat.ne_of_lt (Heap.lt_size (g.sub b o' e)))]; exact e

theorem St.gs {c ns env Γ A n₀ G s} (S : St c ns env Γ A n₀ G s) : GS c A G s := let ⟨_, x⟩ := S; x.gs
theorem St.big {c ns env Γ A n₀ G s} (S : St c ns env Γ A n₀ G s) : 86 < s.heap.objs.size := by
  obtain ⟨ps, h1, _⟩ := S.gs.tab
  exact Heap.lt_size h1
theorem Step.big {A : Around} {G s G' s'} (x : Step A (Bel s) G s G' s') (_h : 86 < s.heap.objs.size) : 86 < s'.heap.objs.size := let ⟨_, h1, _⟩ := x.tab; Heap.lt_size h1

structure Step0 (A : Around) (n₀ : Addr → Prop) (G : Addr → Option Obj) (s : Shared) (G' : Addr → Option Obj) (s' : Shared) : Prop where
  of : s.toks ≤ s'.toks → Step A n₀ G s G' s'
theorem Step.any {A n₀ G s G' s'} (x : Step A n₀ G s G' s') (tk : Nat) : Step0 A n₀ G s G' { s' with toks := tk } := ⟨fun h => ⟨x.sub, x.le, x.new, x.keep, x.fr, x.os, x.gens, x.tab, h⟩⟩
theorem fixT {M : Model} {α : Type} {A : Around} {t : Sem α} {s : Shared} {n₀ : Addr → Prop} {G : PH w} {Φ : α → PH w → Shared → Prop} {E : Value → Shared → Prop}
    (h : wpAny M A t (fun V s' => ∃ G', Φ V G' s' ∧ Step0 A n₀ G s G' s') E s) : wpAny M A t (fun V s' => ∃ G', Φ V G' s' ∧ Step A n₀ G s G' s') E s :=
  wpAny_mono (wpAny_toks h) (fun _ _ ⟨k, G', a, b⟩ => ⟨G', a, b.of k⟩) fun _ _ e => e.2

structure BO (c : Ctx0) (op : Operator) (v₁ v₂ v : PV) : Prop where
  run : ∀ (A : Around) (G : PH c.w) (s : Shared) (V₁ V₂ : Value) (E : Value → Shared → Prop), Rm 0 A → GS c A G s → 86 < s.heap.objs.size →
  Holds G v₁ V₁ → Holds G v₂ V₂ → wpAny c.M A (binaryOp op V₁ V₂) (XP A G s v) E s
structure CO (c : Ctx0) (op : CmpOp) (v₁ v₂ : PV) (b : Bool) : Prop where
  run : ∀ (A : Around) (H G : PH c.w) (s : Shared) (V₁ V₂ : Value) (E : Value → Shared → Prop), Rm 0 A → GS c A G s → 86 < s.heap.objs.size →
  (∀ b o, H b = some o → s.heap.get? b = some o) → Holds H v₁ V₁ → Holds H v₂ V₂ → wpAny c.M A (compareOp op V₁ V₂) (fun V s' => V = .bool b ∧ XPU A G s s') E s
structure FN (c : Ctx0) (d : Nat) (f : Value) (args : List PV) (v : PV) : Prop where
  run : ∀ (A : Around) (G : PH c.w) (s : Shared) (Vs : List Value) (E : Value → Shared → Prop), Rm d A → GS c A G s → 86 < s.heap.objs.size →
  HoldsL G args Vs → wpAny c.M A (call f Vs) (XP A G s v) E s
structure FNV (c : Ctx0) (d : Nat) (f : Value) (args : List PV) (v : PV) : Prop where
  run : ∀ (A : Around) (H G : PH c.w) (s : Shared) (Vs : List Value) (E : Value → Shared → Prop), Rm d A → GS c A G s → 86 < s.heap.objs.size →
  (∀ b o, H b = some o → s.heap.get? b = some o) → HoldsL H args Vs → wpAny c.M A (call f Vs) (XP A G s v) E s

theorem Rm.less {d d' A} (h : Rm d A) (hd : d' ≤ d) : Rm d' A := ⟨h.handled, h.frames, by have := h.depth; omega, by have := h.units; omega⟩

section
variable {c : Ctx0} {d : Nat} {ns : List (Str × NK)} {env : Env} {Γ : List Slot}

structure EXT (c : Ctx0) (d : Nat) (ns : List (Str × NK)) (env : Env) (Γ : List Slot) (e : PySem.Expr) (v : PV) : Prop where
  run :   ∀ (A : Around) (n₀ : Addr → Prop) (G : PH c.w) (s : Shared) (E : Value → Shared → Prop), Rm d A → St c ns env Γ A n₀ G s → wpAny c.M A (eval e env) (XPT A G s v) E s
structure TX (c : Ctx0) (d : Nat) (ns : List (Str × NK)) (env : Env) (Γ : List Slot) (e : PySem.Expr) (b : Bool) : Prop where
  run :   ∀ (A : Around) (n₀ : Addr → Prop) (G : PH c.w) (s : Shared) (E : Value → Shared → Prop), Rm d A → St c ns env Γ A n₀ G s → wpAny c.M A (isTrue e env (eval e env)) (XPB A G s b) E s
structure EXL (c : Ctx0) (d : Nat) (ns : List (Str × NK)) (env : Env) (Γ : List Slot) (es : List PySem.Expr) (vs : List PV) : Prop where
  run :   ∀ (A : Around) (n₀ : Addr → Prop) (G : PH c.w) (s : Shared) (E : Value → Shared → Prop) (pos : Pos), Rm d A → St c ns env Γ A n₀ G s → wpAny c.M A (spliced (backTo pos (starEach es env))) (XPL A G s vs) E s

theorem EX.t {e v} (h : EX c d ns env Γ e v) : EXT c d ns env Γ e v := ⟨fun A n₀ G s E r S =>
  wm (h.run A n₀ G s E r S) (fun _ s' ⟨G', hh, x⟩ => ⟨G', hh.mono (St.gs (S.step x)).vis, x⟩)⟩

theorem EXT_own (ok : EnvOK ns env) (i : Nat) {x : Str} {k : NK} {pos} {xs : List PV} (hi : ns[i]? = some (x, k)) (hv : Γ[i]? = some (.own xs)) : EXT c d ns env Γ (.Name x pos) (.list xs) := ⟨fun A n₀ G s E _ S => by
  obtain ⟨V, S⟩ := S
  obtain ⟨a, vs, n, hy, g, _, hf, _, hg, hh⟩ := S.slot i _ hv
  refine wpAny_Name (loadVar ok hi S hy ⟨G, ⟨a, vs, n, rfl, ?_, hh.mono S.gs.vis⟩, Step.refl S.gs⟩) (ok.dbg i x k hi)
  unfold Vis
  rw [if_neg]
  · exact hg
  · rintro (q | q)
    · exact hf q
    · exact tab_not S.gs.tab hg (by intro vs h; cases h) q⟩

theorem EX_bin {l r op pos v₁ v₂ v} (h₁ : EX c d ns env Γ l v₁) (h₂ : EX c d ns env Γ r v₂) (b : BO c op v₁ v₂ v) : EX c d ns env Γ (.BinOp l op r pos) v := ⟨fun A n₀ G s E rm S => by
  refine wpAny_BinOp (wm (h₁.run A n₀ G s E rm S) (fun V₁ s₁ ⟨G₁, hh₁, x₁⟩ => ?_))
  have S₁ := S.step x₁
  refine wm (h₂.run A n₀ G₁ s₁ E rm S₁) (fun V₂ s₂ ⟨G₂, hh₂, x₂⟩ => ?_)
  have S₂ := S₁.step x₂
  refine wm (b.run A G₂ s₂ V₁ V₂ E (rm.less (Nat.zero_le _)) S₂.gs S₂.big (hh₁.mono x₂.le) hh₂) (fun V s₃ ⟨G₃, hh₃, x₃⟩ => ?_)
  exact ⟨G₃, hh₃, (x₁.then x₂).then x₃⟩⟩

theorem EX_cmp {l r op pos v₁ v₂ b} (h₁ : EXT c d ns env Γ l v₁) (h₂ : EXT c d ns env Γ r v₂) (co : CO c op v₁ v₂ b) (hb : behindInMarks op r = false) : EX c d ns env Γ (.Compare l [op] [r] pos) (.bool b) := ⟨fun A n₀ G s E rm S => by
  rw [eval_Compare1, markedBehindIn_of_false hb]
  refine wb (h₁.run A n₀ G s E rm S) (fun V₁ s₁ ⟨G₁, hh₁, x₁⟩ => ?_)
  have S₁ := S.step x₁
  refine wbh (wm (h₂.run A n₀ G₁ s₁ E rm S₁) (fun V₂ s₂ ⟨G₂, hh₂, x₂⟩ => ?_))
  have S₂ := S₁.step x₂
  refine wbs (wpAny_operating ?_)
  refine wm (co.run A (Vis A s₂.heap) G₂ s₂ V₁ V₂ E (rm.less (Nat.zero_le _)) S₂.gs S₂.big (fun _ _ => Vis.sub) (hh₁.mono (Vis.step x₂)) hh₂) (fun V s₃ ⟨hV, G₃, x₃⟩ => ?_)
  exact ⟨G₃, hV, (x₁.then x₂).then x₃⟩⟩

theorem TX_cmp {l r op pos v₁ v₂ b} (h₁ : EXT c d ns env Γ l v₁) (h₂ : EXT c d ns env Γ r v₂) (co : CO c op v₁ v₂ b) (hb : behindInMarks op r = false) : TX c d ns env Γ (.Compare l [op] [r] pos) b := ⟨fun A n₀ G s E rm S => by
  rw [isTrue_Compare1, markedBehindIn_of_false hb]
  refine wb (h₁.run A n₀ G s E rm S) (fun V₁ s₁ ⟨G₁, hh₁, x₁⟩ => ?_)
  have S₁ := S.step x₁
  refine wbh (wm (h₂.run A n₀ G₁ s₁ E rm S₁) (fun V₂ s₂ ⟨G₂, hh₂, x₂⟩ => ?_))
  have S₂ := S₁.step x₂
  refine wbs (wpAny_bind (wpAny_operating ?_))
  refine wm (co.run A (Vis A s₂.heap) G₂ s₂ V₁ V₂ E (rm.less (Nat.zero_le _)) S₂.gs S₂.big (fun _ _ => Vis.sub) (hh₁.mono (Vis.step x₂)) hh₂) (fun V s₃ ⟨hV, G₃, x₃⟩ => ?_)
  subst hV
  exact wpAny_holding (wpAny_truthy_bool ⟨G₃, rfl, (x₁.then x₂).then x₃⟩)⟩

theorem TX_not {e pos b} (h : TX c d ns env Γ e b) : TX c d ns env Γ (.UnaryOp .Not e pos) (!b) := ⟨fun A n₀ G s E rm S =>
  wpAny_isTrue_Not (wm (h.run A n₀ G s E rm S) (fun _ _ ⟨G', e, x⟩ => ⟨G', by rw [e], x⟩))⟩


theorem TX_or {x y pos b₁ b₂} (h₁ : TX c d ns env Γ x b₁) (h₂ : b₁ = false → TX c d ns env Γ y b₂) : TX c d ns env Γ (.BoolOp .Or [x, y] pos) (b₁ || b₂) := ⟨fun A n₀ G s E rm S => by
  refine wpAny_isTrue_BoolOp (wpAny_allTrue_Or_cons (wm (h₁.run A n₀ G s E rm S) (fun b s₁ ⟨G₁, e₁, x₁⟩ => ?_)))
  subst e₁
  cases b with
  | true => first | exact ⟨G₁, rfl, x₁⟩ | (simp only [if_true]; exact ⟨G₁, rfl, x₁⟩)
  | false =>
    have S₁ := S.step x₁
    simp only [Bool.false_eq_true, if_false]
    refine wpAny_allTrue_Or_cons (wm ((h₂ rfl).run A n₀ G₁ s₁ E rm S₁) (fun b s₂ ⟨G₂, e₂, x₂⟩ => ?_))
    subst e₂
    cases b with
    | true => first | exact ⟨G₂, rfl, x₁.then x₂⟩ | (simp only [if_true]; exact ⟨G₂, rfl, x₁.then x₂⟩)
    | false => simp only [Bool.false_eq_true, if_false]; exact wpAny_allTrue_Or_nil ⟨G₂, rfl, x₁.then x₂⟩⟩
theorem TX_and {x y pos b₁ b₂} (h₁ : TX c d ns env Γ x b₁) (h₂ : b₁ = true → TX c d ns env Γ y b₂) : TX c d ns env Γ (.BoolOp .And [x, y] pos) (b₁ && b₂) := ⟨fun A n₀ G s E rm S => by
  refine wpAny_isTrue_BoolOp (wpAny_allTrue_And_cons (wm (h₁.run A n₀ G s E rm S) (fun b s₁ ⟨G₁, e₁, x₁⟩ => ?_)))
  subst e₁
  cases b with
  | false => first | exact ⟨G₁, rfl, x₁⟩ | (simp only [Bool.false_eq_true, if_false]; exact ⟨G₁, rfl, x₁⟩)
  | true =>
    have S₁ := S.step x₁
    simp only [if_true]
    refine wpAny_allTrue_And_cons (wm ((h₂ rfl).run A n₀ G₁ s₁ E rm S₁) (fun b s₂ ⟨G₂, e₂, x₂⟩ => ?_))
    subst e₂
    cases b with
    | false => first | exact ⟨G₂, rfl, x₁.then x₂⟩ | (simp only [Bool.false_eq_true, if_false]; exact ⟨G₂, rfl, x₁.then x₂⟩)
    | true => simp only [if_true]; exact wpAny_allTrue_And_nil ⟨G₂, rfl, x₁.then x₂⟩⟩

theorem EX_and {x y pos b₁ b₂} (h₁ : EX c d ns env Γ x (.bool b₁)) (h₂ : b₁ = true → EX c d ns env Γ y (.bool b₂)) : EX c d ns env Γ (.BoolOp .And [x, y] pos) (.bool (b₁ && b₂)) := ⟨fun A n₀ G s E rm S => by
  refine wpAny_And2 (wm (h₁.run A n₀ G s E rm S) (fun V₁ s₁ ⟨G₁, hh₁, x₁⟩ => ?_))
  have hV : V₁ = .bool b₁ := hh₁
  subst hV
  refine wpAny_truthy_bool ?_
  cases b₁ with
  | false => first | exact ⟨G₁, rfl, x₁⟩ | (simp only [Bool.false_eq_true, if_false]; exact ⟨G₁, rfl, x₁⟩)
  | true =>
    have S₁ := S.step x₁
    first | simp only [if_true] | skip
    exact wm ((h₂ rfl).run A n₀ G₁ s₁ E rm S₁) (fun V₂ s₂ ⟨G₂, hh₂, x₂⟩ => ⟨G₂, hh₂, x₁.then x₂⟩)⟩
theorem EX_or {x y pos b₁ b₂} (h₁ : EX c d ns env Γ x (.bool b₁)) (h₂ : b₁ = false → EX c d ns env Γ y (.bool b₂)) : EX c d ns env Γ (.BoolOp .Or [x, y] pos) (.bool (b₁ || b₂)) := ⟨fun A n₀ G s E rm S => by
  refine wpAny_Or2 (wm (h₁.run A n₀ G s E rm S) (fun V₁ s₁ ⟨G₁, hh₁, x₁⟩ => ?_))
  have hV : V₁ = .bool b₁ := hh₁
  subst hV
  refine wpAny_truthy_bool ?_
  cases b₁ with
  | true => first | exact ⟨G₁, rfl, x₁⟩ | (simp only [if_true]; exact ⟨G₁, rfl, x₁⟩)
  | false =>
    have S₁ := S.step x₁
    first | simp only [Bool.false_eq_true, if_false] | skip
    exact wm ((h₂ rfl).run A n₀ G₁ s₁ E rm S₁) (fun V₂ s₂ ⟨G₂, hh₂, x₂⟩ => ⟨G₂, hh₂, x₁.then x₂⟩)⟩

theorem EX_if {t x y pos b v} (h : TX c d ns env Γ t b) (h₁ : b = true → EX c d ns env Γ x v) (h₂ : b = false → EX c d ns env Γ y v) : EX c d ns env Γ (.IfExp t x y pos) v := ⟨fun A n₀ G s E rm S => by
  refine wpAny_IfExp (wm (h.run A n₀ G s E rm S) (fun b' s₁ ⟨G₁, e₁, x₁⟩ => ?_))
  subst e₁
  have S₁ := S.step x₁
  cases b' with
  | true =>
    first | simp only [if_true] | skip
    exact wm ((h₁ rfl).run A n₀ G₁ s₁ E rm S₁) (fun V₂ s₂ ⟨G₂, hh₂, x₂⟩ => ⟨G₂, hh₂, x₁.then x₂⟩)
  | false =>
    first | simp only [Bool.false_eq_true, if_false] | skip
    exact wm ((h₂ rfl).run A n₀ G₁ s₁ E rm S₁) (fun V₂ s₂ ⟨G₂, hh₂, x₂⟩ => ⟨G₂, hh₂, x₁.then x₂⟩)⟩

theorem EXL_nil : EXL c d ns env Γ [] [] := ⟨fun _ _ G _ _ _ _ S => wpAny_items_nil ⟨G, rfl, Step.refl S.gs⟩⟩
theorem EXL_cons {e es v vs} (h : EX c d ns env Γ e v) (hs : EXL c d ns env Γ es vs) (he : ∀ env, starEach (e :: es) env = (false, eval e env) :: starEach es env) : EXL c d ns env Γ (e :: es) (v :: vs) := ⟨fun A n₀ G s E pos rm S => by
  refine PyProof.Rows.args_cons (wm (h.run A n₀ G s E rm S) (fun V₁ s₁ ⟨G₁, hh₁, x₁⟩ => ?_)) (he env)
  have S₁ := S.step x₁
  exact wm (hs.run A n₀ G₁ s₁ E pos rm S₁) (fun V₂ s₂ ⟨G₂, hh₂, x₂⟩ => ⟨G₂, ⟨_, _, rfl, hh₁.mono x₂.le, hh₂⟩, x₁.then x₂⟩)⟩

end
end

section
section
variable {c : Ctx0} {d : Nat} {ns : List (Str × NK)} {env : Env} {Γ : List Slot}

theorem BO_add_int {a b : Int} : BO c .Add (.int a) (.int b) (.int (a + b)) := ⟨fun A G s V₁ V₂ E _ g _ ⟨t, h₁⟩ ⟨u, h₂⟩ => by
  subst h₁ h₂; exact P.add_int ⟨G, ⟨_, rfl⟩, Step.tok g _ _ (Nat.le_succ _)⟩⟩
theorem BO_sub_int {a b : Int} : BO c .Sub (.int a) (.int b) (.int (a - b)) := ⟨fun A G s V₁ V₂ E _ g _ ⟨t, h₁⟩ ⟨u, h₂⟩ => by
  subst h₁ h₂; exact P.sub_int ⟨G, ⟨_, rfl⟩, Step.tok g _ _ (Nat.le_succ _)⟩⟩
theorem BO_mul_int {a b : Int} (hm : IntMulOk a b) : BO c .Mult (.int a) (.int b) (.int (a * b)) := ⟨fun A G s V₁ V₂ E _ g _ ⟨t, h₁⟩ ⟨u, h₂⟩ => by
  subst h₁ h₂; exact P.mul_int ⟨G, ⟨_, rfl⟩, Step.tok g _ _ (Nat.le_succ _)⟩ hm⟩
theorem BO_mod_int {a b : Int} (hb : b ≠ 0) : BO c .Mod (.int a) (.int b) (.int (a.fmod b)) := ⟨fun A G s V₁ V₂ E _ g _ ⟨t, h₁⟩ ⟨u, h₂⟩ => by
  subst h₁ h₂; exact mod_int hb ⟨G, ⟨_, rfl⟩, Step.tok g _ _ (Nat.le_succ _)⟩⟩
theorem BO_floordiv_int {a b : Int} (hb : b ≠ 0) (hp : Builtin.divisionGoesByPylong a b = false) : BO c .FloorDiv (.int a) (.int b) (.int (a.fdiv b)) := ⟨fun A G s V₁ V₂ E _ g _ ⟨t, h₁⟩ ⟨u, h₂⟩ => by
  subst h₁ h₂; exact floordiv_int hb ⟨G, ⟨_, rfl⟩, Step.tok g _ _ (Nat.le_succ _)⟩ (.inl hp)⟩
theorem BO_pow_int {a b : Int} (hn : 0 ≤ b) (hsz : (Builtin.Int.intBits a : Int) * b ≤ 2 ^ 27) : BO c .Pow (.int a) (.int b) (.int (a ^ b.toNat)) := ⟨fun A G s V₁ V₂ E _ g _ ⟨t, h₁⟩ ⟨u, h₂⟩ => by
  subst h₁ h₂; exact pow_int hn hsz ⟨G, ⟨_, rfl⟩, Step.tok g _ _ (Nat.le_succ _)⟩⟩
theorem BO_or_int {a b : Int} : BO c .BitOr (.int a) (.int b) (.int (Builtin.bitOr a b)) := ⟨fun A G s V₁ V₂ E _ g _ ⟨t, h₁⟩ ⟨u, h₂⟩ => by
  subst h₁ h₂; exact or_int ⟨G, ⟨_, rfl⟩, Step.tok g _ _ (Nat.le_succ _)⟩⟩
theorem BO_add_str {a b : Str} (hs : a.length + b.length ≤ sizeLine) : BO c .Add (.str a) (.str b) (.str (a ++ b)) := ⟨fun A G s V₁ V₂ E _ g _ ⟨t, h₁⟩ ⟨u, h₂⟩ => by
  subst h₁ h₂; exact fixT (SB.add (fun _ k => ⟨G, ⟨_, rfl⟩, (Step.refl g).any k⟩) hs)⟩
theorem HoldsL.append {G : PH w} : ∀ {xs ys : List PV} {vs ws : List Value}, HoldsL G xs vs → HoldsL G ys ws → HoldsL G (xs ++ ys) (vs ++ ws)
  | [], _, _, _, h, k => by rw [show _ = [] from h]; exact k
  | _ :: _, _, _, _, h, k => by obtain ⟨v, r, rfl, h1, h2⟩ := h; exact ⟨v, r ++ _, rfl, h1, HoldsL.append h2 k⟩
theorem BO_add_list {a b : List PV} (hs : a.length + b.length ≤ sizeLine) : BO c .Add (.list a) (.list b) (.list (a ++ b)) := ⟨fun A G s V₁ V₂ E _ g hbig ⟨l₁, vs₁, n₁, h₁, g₁, k₁⟩ ⟨l₂, vs₂, n₂, h₂, g₂, k₂⟩ => by
  subst h₁ h₂
  refine P.add_list (n := n₁) (n2 := n₂) (g.sub _ _ g₁) (g.sub _ _ g₂) ?_ (by simp only [List.size_toArray]; rw [k₁.length, k₂.length]; exact hs)
  refine ⟨_, ⟨_, vs₁ ++ vs₂, 0, rfl, ?_, (k₁.append k₂).mono (pin_le g _)⟩, (Step.push g _ rfl s.toks (Nat.le_refl _))⟩
  rw [pin_self]; simp⟩

theorem CO_lt_int {a b : Int} : CO c .Lt (.int a) (.int b) (decide (a < b)) := ⟨fun A H G s V₁ V₂ E _ g _ _ ⟨t, h₁⟩ ⟨u, h₂⟩ => by
  subst h₁ h₂; exact P.lt_int ⟨rfl, G, Step.tok g _ _ (Nat.le_refl _)⟩⟩
theorem CO_ge_int {a b : Int} : CO c .GtE (.int a) (.int b) (decide (a ≥ b)) := ⟨fun A H G s V₁ V₂ E _ g _ _ ⟨t, h₁⟩ ⟨u, h₂⟩ => by
  subst h₁ h₂; exact P.ge_int ⟨rfl, G, Step.tok g _ _ (Nat.le_refl _)⟩⟩
theorem CO_eq_int {a b : Int} : CO c .Eq (.int a) (.int b) (a == b) := ⟨fun A H G s V₁ V₂ E _ g _ _ ⟨t, h₁⟩ ⟨u, h₂⟩ => by
  subst h₁ h₂; exact eq_int ⟨rfl, G, Step.tok g _ _ (Nat.le_refl _)⟩⟩
theorem CO_eq_str {a b : Str} : CO c .Eq (.str a) (.str b) (a == b) := ⟨fun A H G s V₁ V₂ E _ g _ _ ⟨t, h₁⟩ ⟨u, h₂⟩ => by
  subst h₁ h₂; exact PyProof.Rows.eq_str ⟨rfl, G, Step.tok g _ _ (Nat.le_refl _)⟩⟩
theorem CO_ne_str {a b : Str} : CO c .NotEq (.str a) (.str b) (a != b) := ⟨fun A H G s V₁ V₂ E _ g _ _ ⟨t, h₁⟩ ⟨u, h₂⟩ => by
  subst h₁ h₂; exact PyProof.Rows.ne_str ⟨rfl, G, Step.tok g _ _ (Nat.le_refl _)⟩⟩
theorem CO_ne_bool {a b : Bool} : CO c .NotEq (.bool a) (.bool b) (a != b) := ⟨fun A H G s V₁ V₂ E _ g _ _ h₁ h₂ => by
  have e1 : V₁ = .bool a := h₁
  have e2 : V₂ = .bool b := h₂
  subst e1 e2; exact ne_bool ⟨rfl, G, Step.tok g _ _ (Nat.le_refl _)⟩⟩
theorem CO_in_str {a b : Str} : CO c .In (.str b) (.str a) (Txt.contains a b) := ⟨fun A H G s V₁ V₂ E _ g _ _ ⟨t, h₁⟩ ⟨u, h₂⟩ => by
  subst h₁ h₂; exact SB.contains ⟨rfl, G, Step.tok g _ _ (Nat.le_refl _)⟩⟩
theorem CO_notin_str {a b : Str} : CO c .NotIn (.str b) (.str a) (!Txt.contains a b) := ⟨fun A H G s V₁ V₂ E _ g _ _ ⟨t, h₁⟩ ⟨u, h₂⟩ => by
  subst h₁ h₂; exact SB.notContains ⟨rfl, G, Step.tok g _ _ (Nat.le_refl _)⟩⟩

noncomputable def strOf : Value → Str
  | .str x _ => x
  | _ => ⟨#[]⟩
theorem HoldsL.strs {G : PH w} : ∀ {xs : List Str} {vs : List Value}, HoldsL G (xs.map .str) vs → (∀ v ∈ vs, ∃ t, v = .str (strOf v) t) ∧ vs.map strOf = xs
  | [], _, h => by rw [show _ = [] from h]; exact ⟨by simp, rfl⟩
  | x :: xs, vs, h => by
    obtain ⟨v, r, rfl, ⟨t, rfl⟩, h2⟩ := h
    obtain ⟨k1, k2⟩ := HoldsL.strs h2
    exact ⟨fun v hv => (List.mem_cons.mp hv).elim (fun e => e ▸ ⟨t, rfl⟩) (k1 v), by simp [k2, strOf]⟩

set_option tactic.hygienic true in
theorem any_strs {G : PH w} {xs : List Str} {vs : List Value} (h : HoldsL G (xs.map .str) vs) (y : Str) : (vs.toArray.any fun v => (strOf v).cps.toList == y.cps.toList) = xs.contains y := by
  obtain ⟨_, h2⟩ := h.strs
  rw [← h2]
  have e : ∀ v : Value, ((strOf v).cps.toList == y.cps.toList) = (y == strOf v) := fun v => by
    rw [Bool.eq_iff_iff]; simp only [beq_iff_eq]
    constructor
    · intro h; obtain ⟨a⟩ := y; cases hv : strOf v; rename_i b; rw [hv] at h; have : b = a := Array.toList_inj.mp h; rw [this]
    · intro h; rw [h]
  simp only [List.any_toArray, e]
  rw [List.contains_eq_any_beq, List.any_map]
  rfl

theorem CO_in_list {xs : List Str} {y : Str} : CO c .In (.str y) (.list (xs.map .str)) (xs.contains y) := ⟨fun A H G s V₁ V₂ E _ g _ hs ⟨t, h₁⟩ ⟨l, vs, n, h₂, gl, k⟩ => by
  subst h₁ h₂
  refine SeqRoads2.in_list (items := vs.toArray) (n := n) (fun v => (strOf v).cps.toList == y.cps.toList) (fun v hv => ?_) (hs _ _ gl) ⟨by rw [any_strs k], G, Step.tok g _ _ (Nat.le_refl _)⟩
  obtain ⟨u, e⟩ := k.strs.1 v (by simpa using hv)
  generalize strOf v = z at e
  subst e
  exact SeqRoads2.EqGives.str _ _ _ _⟩
theorem CO_notin_list {xs : List Str} {y : Str} : CO c .NotIn (.str y) (.list (xs.map .str)) (!xs.contains y) := ⟨fun A H G s V₁ V₂ E _ g _ hs ⟨t, h₁⟩ ⟨l, vs, n, h₂, gl, k⟩ => by
  subst h₁ h₂
  refine SeqRoads2.notIn_list (items := vs.toArray) (n := n) (fun v => (strOf v).cps.toList == y.cps.toList) (fun v hv => ?_) (hs _ _ gl) ⟨by rw [any_strs k], G, Step.tok g _ _ (Nat.le_refl _)⟩
  obtain ⟨u, e⟩ := k.strs.1 v (by simpa using hv)
  generalize strOf v = z at e
  subst e
  exact SeqRoads2.EqGives.str _ _ _ _⟩
end
end

section
structure Cok (c : Ctx0) : Prop where
  g : c.hb.Ns mainGlobals c.mg
  b : c.hb.Ns builtinsNs c.mb
  nolimit : c.hb.NoLimit

noncomputable def GV (c : Ctx0) (x : Str) (V : Value) : Prop := c.mg x = some V ∨ (c.mg x = none ∧ c.mb x = some V)

section
variable {c : Ctx0} {d : Nat} {ns : List (Str × NK)} {env : Env} {Γ : List Slot}

theorem GS.up {A G s} (g : GS c A G s) : ∀ b o, c.hb.get? b = some o → s.heap.get? b = some o := fun b o e => g.sub b o (g.hb b o e)

theorem EX_glob (C : Cok c) (ok : EnvOK ns env) {x : Str} {pos : Pos} {V : Value} (hk : env.kindOf x = some .globalImplicit) (hv : GV c x V) (hd : (x == ("__debug__" : Str)) = false) :
    EX c d ns env Γ (.Name x pos) (.raw V) := ⟨fun A n₀ G s E _ S => by
  have g := S.gs
  refine Calls.Name_function_global ok.fn hk ?_ hd
  rcases hv with hv | ⟨h1, h2⟩
  · exact Calls.loadGlobal_global (ok.globals ▸ C.g.keeps g.up) hv ⟨G, rfl, Step.refl g⟩
  · exact Calls.loadGlobal_builtin (ok.globals ▸ C.g.keeps g.up) h1 (ok.builtins ▸ C.b.keeps g.up) h2 ⟨G, rfl, Step.refl g⟩⟩

theorem evalArgs_all {M : Model} {A : Around} {E : Value → Shared → Prop} {s : Shared} {f : Value} {args : List (Bool × Sem Value)} {Q : Args → Shared → Prop} (hp : args.any (·.1) = false)
    (h : wpAny M A (spliced args) (fun vs s' => Q ⟨vs, []⟩ s') E s) : wpAny M A (evalArgs f true args []) Q E s := by
  cases args with
  | nil =>
    unfold evalArgs
    show wpAny M A (spliced [] >>= _) Q E s
    refine wb h (fun vs s' h' => ?_)
    refine wbp ?_
    refine wpAny_holding ?_
    exact wbp (wbp (wpAny_pure h'))
  | cons x r =>
    obtain ⟨b, t⟩ := x
    have hb : b = false := by simp only [List.any_cons, Bool.or_eq_false_iff] at hp; exact hp.1
    subst hb
    exact Calls.evalArgs_plain h

inductive Callee (c : Ctx0) : Value → Prop where
  | builtin (id : String) : Callee c (.builtin id)
  | type (n : String) : Callee c (.type n)
  | fn {a : Addr} {o : Obj} {fd : FuncData} : c.hb.get? a = some o → o.data = .func fd → Callee c (.ref a)

theorem callWith_go {A : Around} {E : Value → Shared → Prop} {s : Shared} {f : Value} {first : List Value} {pos : Pos} {args : List (Bool × Sem Value)} {Q : Value → Shared → Prop} (k : Callee c f) (hp : args.any (·.1) = false)
    (h : wpAny c.M A (spliced args) (fun vs s₁ => (∀ b o, c.hb.get? b = some o → s₁.heap.get? b = some o) ∧ wpAny c.M A (call f (first ++ vs)) Q E s₁) E s) : wpAny c.M A (callWith pos f first args []) Q E s := by
  cases k with
  | builtin id => exact Calls.callWith_builtin hp (evalArgs_all hp (wm h (fun _ _ x => x.2)))
  | type n => exact PyProof.Rows.callWith_type hp (evalArgs_all hp (wm h (fun _ _ x => x.2)))
  | fn ho hd => exact Calls.callWith_function (evalArgs_all hp (wm h (fun _ _ x => ⟨⟨x.1 _ _ ho, hd⟩, x.2⟩)))

theorem EX_call {fe : PySem.Expr} {args : List PySem.Expr} {pos : Pos} {f : Value} {vs : List PV} {v : PV} (h₁ : EX c d ns env Γ fe (.raw f)) (k : Callee c f) (h₂ : EXL c d ns env Γ args vs) (hf : FN c d f vs v)
    (he : eval (.Call fe args [] pos) env = (do callWith pos (← eval fe env) [] (backTo pos (starEach args env)) (backToKw pos (keywordEach [] env))))
    (hp : ∀ pos env, (backTo pos (starEach args env)).any (·.1) = false) : EX c d ns env Γ (.Call fe args [] pos) v := ⟨fun A n₀ G s E rm S => by
  rw [he]
  refine wb (h₁.run A n₀ G s E rm S) (fun V₁ s₁ ⟨G₁, hh₁, x₁⟩ => ?_)
  have hV : V₁ = f := hh₁
  subst hV
  have S₁ := S.step x₁
  refine callWith_go k (hp pos env) (wm (h₂.run A n₀ G₁ s₁ E pos rm S₁) (fun Vs s₂ ⟨G₂, hh₂, x₂⟩ => ?_))
  have S₂ := S₁.step x₂
  refine ⟨S₂.gs.up, wm (hf.run A G₂ s₂ Vs E rm S₂.gs S₂.big hh₂) (fun V₃ s₃ ⟨G₃, hh₃, x₃⟩ => ⟨G₃, hh₃, (x₁.then x₂).then x₃⟩)⟩⟩

theorem EX_callT {fe : PySem.Expr} {arg : PySem.Expr} {pos : Pos} {f : Value} {v₁ v : PV} (h₁ : EX c d ns env Γ fe (.raw f)) (k : Callee c f) (h₂ : EXT c d ns env Γ arg v₁) (hf : FNV c d f [v₁] v)
    (he : eval (.Call fe [arg] [] pos) env = (do callWith pos (← eval fe env) [] (backTo pos (starEach [arg] env)) (backToKw pos (keywordEach [] env))))
    (hs : starEach [arg] env = (false, eval arg env) :: starEach [] env) : EX c d ns env Γ (.Call fe [arg] [] pos) v := ⟨fun A n₀ G s E rm S => by
  rw [he]
  refine wb (h₁.run A n₀ G s E rm S) (fun V₁ s₁ ⟨G₁, hh₁, x₁⟩ => ?_)
  have hV : V₁ = f := hh₁
  subst hV
  have S₁ := S.step x₁
  refine callWith_go k (by rw [hs]; rfl) (PyProof.Rows.args_cons (wm (h₂.run A n₀ G₁ s₁ E rm S₁) (fun V₂ s₂ ⟨G₂, hh₂, x₂⟩ => ?_)) hs)
  have S₂ := S₁.step x₂
  refine wpAny_items_nil ⟨S₂.gs.up, wm (hf.run A (Vis A s₂.heap) G₂ s₂ [V₂] E rm S₂.gs S₂.big (fun _ _ => Vis.sub) ⟨_, _, rfl, hh₂, rfl⟩) (fun V₃ s₃ ⟨G₃, hh₃, x₃⟩ => ⟨G₃, hh₃, (x₁.then x₂).then x₃⟩)⟩⟩

theorem EX_meth {o : PySem.Expr} {name : Str} {apos pos : Pos} {args : List PySem.Expr} {id : String} {x : Str} {vs : List PV} {v : PV} (slot : PySem.Slot "str" name id) (ty : typeOf (.builtin id) = pure (.type "method_descriptor"))
    (h₁ : EX c d ns env Γ o (.str x)) (h₂ : EXL c d ns env Γ args vs) (hf : FN c d (.builtin id) (.str x :: vs) v)
    (hbase : attributeBase o name env (eval o env) = eval o env) (hline : (apos.endLine == pos.line) = true)
    (hp : ∀ pos env, (backTo pos (starEach args env)).any (·.1) = false)
    (hfew : ∀ pos env, ((backTo pos (starEach args env)).all (fun x => !x.1) && (backToKw pos (keywordEach [] env)).all (fun x => x.1.isSome)
      && decide (args.length + ([] : List Keyword).length + (if ([] : List Keyword).isEmpty then 0 else 1) < 30)) = true) :
    EX c d ns env Γ (.Call (.Attribute o name apos) args [] pos) v := ⟨fun A n₀ G s E rm S => by
  refine wpAny_Call_method_lateS hbase (hfew pos env) hline (wm (h₁.run A n₀ G s E rm S) (fun V₁ s₁ ⟨G₁, ⟨t, hh₁⟩, x₁⟩ => ?_))
  subst hh₁
  have S₁ := S.step x₁
  refine ⟨"str", id, F.plainAttrs_str, slot, ty, typeIs_str _ _ _, (fun _ e => nomatch e), ?_⟩
  refine callWith_go (c := c) (.builtin id) (hp pos env) (wm (h₂.run A n₀ G₁ s₁ E pos rm S₁) (fun Vs s₂ ⟨G₂, hh₂, x₂⟩ => ?_))
  have S₂ := S₁.step x₂
  exact ⟨S₂.gs.up, wm (hf.run A G₂ s₂ (.str x t :: Vs) E rm S₂.gs S₂.big ⟨_, _, rfl, ⟨t, rfl⟩, hh₂⟩) (fun V₃ s₃ ⟨G₃, hh₃, x₃⟩ => ⟨G₃, hh₃, (x₁.then x₂).then x₃⟩)⟩⟩

theorem FN_startswith {x y : Str} : FN c d (.builtin "str.startswith") [.str x, .str y] (.bool (Txt.startswith x y)) := ⟨fun A G s Vs E _ g _ h => by
  obtain ⟨_, _, rfl, ⟨t, rfl⟩, _, _, rfl, ⟨u, rfl⟩, rfl⟩ := h
  exact SC.startswith ⟨G, rfl, Step.refl g⟩⟩
theorem FN_endswith {x y : Str} : FN c d (.builtin "str.endswith") [.str x, .str y] (.bool (Txt.endswith x y)) := ⟨fun A G s Vs E _ g _ h => by
  obtain ⟨_, _, rfl, ⟨t, rfl⟩, _, _, rfl, ⟨u, rfl⟩, rfl⟩ := h
  exact SC.endswith ⟨G, rfl, Step.refl g⟩⟩
theorem FN_rfind {x y : Str} : FN c d (.builtin "str.rfind") [.str x, .str y] (.int (Txt.rfind x y)) := ⟨fun A G s Vs E _ g _ h => by
  obtain ⟨_, _, rfl, ⟨t, rfl⟩, _, _, rfl, ⟨u, rfl⟩, rfl⟩ := h
  exact SC.rfind ⟨G, ⟨_, rfl⟩, Step.tok g _ _ (Nat.le_succ _)⟩⟩
theorem FN_rstrip {x y : Str} (hs : x.length ≤ sizeLine) : FN c d (.builtin "str.rstrip") [.str x, .str y] (.str (Txt.rstripChars x y)) := ⟨fun A G s Vs E _ g _ h => by
  obtain ⟨_, _, rfl, ⟨t, rfl⟩, _, _, rfl, ⟨u, rfl⟩, rfl⟩ := h
  exact fixT (SC.rstripChars (fun _ k => ⟨G, ⟨_, rfl⟩, (Step.refl g).any k⟩) hs)⟩

theorem FNV_len_list {xs : List PV} (hs : xs.length ≤ sizeLine) : FNV c d (.builtin "len") [.list xs] (.int xs.length) := ⟨fun A H G s Vs E _ g _ hsub h => by
  obtain ⟨_, _, rfl, ⟨a, vs, n, rfl, ga, hl⟩, rfl⟩ := h
  have e : vs.toArray.size = xs.length := by simp [hl.length]
  refine fixT (Calls.call_len_list (items := vs.toArray) ⟨_, hsub _ _ ga, rfl, n, rfl⟩ (by rw [e]; have := sizeLine_eq; omega) ?_)
  rw [e]
  exact ⟨G, ⟨_, rfl⟩, (Step.refl g).any _⟩⟩
end
end

section
section
variable {c : Ctx0} {d : Nat} {ns : List (Str × NK)} {env : Env} {Γ : List Slot}

structure EXO (c : Ctx0) (d : Nat) (ns : List (Str × NK)) (env : Env) (Γ : List Slot) (e : Option PySem.Expr) (v : Option Int) : Prop where
  run : ∀ (A : Around) (n₀ : Addr → Prop) (G : PH c.w) (s : Shared) (E : Value → Shared → Prop), Rm d A → St c ns env Γ A n₀ G s →
    wpAny c.M A (evalPart e env) (fun V s' => ∃ G', (∃ p : Option (Int × Tok), V = partValue p ∧ p.map (·.1) = v) ∧ Step A (Bel s) G s G' s') E s
theorem EXO_none : EXO c d ns env Γ none none := ⟨fun _ _ G s E _ S => by
  rw [evalPart_none]; exact wpAny_pure ⟨G, ⟨none, rfl, rfl⟩, Step.refl S.gs⟩⟩
theorem EXO_some {e i} (h : EX c d ns env Γ e (.int i)) : EXO c d ns env Γ (some e) (some i) := ⟨fun A n₀ G s E rm S => by
  rw [evalPart_some]
  exact wm (h.run A n₀ G s E rm S) (fun V s' ⟨G', ⟨t, e⟩, x⟩ => ⟨G', ⟨some (i, t), e, rfl⟩, x⟩)⟩

noncomputable abbrev slobj (l u : Value) : Obj := { cls := .type "slice", data := .fields #[l, u, .none] }

theorem sub_tail {M : Model} {A : Around} {E : Value → Shared → Prop} {s : Shared} {prog : Program} {w : World} (hM : M = model prog w) {slice value : PySem.Expr} {o i : Value} {vs : List Value} {T id : String} {Q : Value → Shared → Prop}
    (hl : typeLookup (.type T) "__getitem__" = pure (some (.builtin id))) (hT : s.TypeIs o T) (hsub : subscripted slice false o i = operate vs (getItem o i))
    (h : wpAny M A (getItem o i) Q E s) : wpAny M A (getitemInPython o >>= fun b => subscripted slice b o i >>= fun r => letTemporaryGo value o r >>= fun _ => pure r) Q E s := by
  subst hM
  refine wpAny_bind ?_
  rw [getitemInPython_of_ne hT.not_modules]
  refine wpAny_bind (wpAny_specialOf hT hl (wpAny_pure ?_))
  rw [hsub]
  exact wpAny_bind (wpAny_operating (wm h (fun r s₃ h₃ => wpAny_bind (wpAny_letTemporaryGo (wpAny_pure h₃)))))

structure GI (c : Ctx0) (T : String) (v₁ v₂ v : PV) : Prop where
  run : ∀ (A : Around) (G : PH c.w) (s : Shared) (V₁ V₂ : Value) (E : Value → Shared → Prop), Rm 0 A → GS c A G s → 86 < s.heap.objs.size → Holds G v₁ V₁ → Holds G v₂ V₂ →
    s.TypeIs V₁ T ∧ wpAny c.M A (getItem V₁ V₂) (XP A G s v) E s

theorem EX_sub {value slice : PySem.Expr} {pos : Pos} {T id : String} {v₁ v₂ v : PV} (hl : typeLookup (.type T) "__getitem__" = pure (some (.builtin id))) (h₁ : EX c d ns env Γ value v₁) (h₂ : EX c d ns env Γ slice v₂)
    (gi : GI c T v₁ v₂ v) (hsub : ∀ o i, subscripted slice false o i = operate [o, i] (getItem o i)) : EX c d ns env Γ (.Subscript value slice pos) v := ⟨fun A n₀ G s E rm S => by
  rw [eval_Subscript]
  refine wb (h₁.run A n₀ G s E rm S) (fun V₁ s₁ ⟨G₁, hh₁, x₁⟩ => ?_)
  have S₁ := S.step x₁
  refine wbh (wm (h₂.run A n₀ G₁ s₁ E rm S₁) (fun V₂ s₂ ⟨G₂, hh₂, x₂⟩ => wbs ?_))
  have S₂ := S₁.step x₂
  obtain ⟨hT, hg⟩ := gi.run A G₂ s₂ V₁ V₂ E (rm.less (Nat.zero_le _)) S₂.gs S₂.big (hh₁.mono x₂.le) hh₂
  exact sub_tail rfl hl hT (hsub V₁ V₂) (wm hg (fun V₃ s₃ ⟨G₃, hh₃, x₃⟩ => ⟨G₃, hh₃, (x₁.then x₂).then x₃⟩))⟩

theorem GI_str {x : Str} {i : Int} (hf : fitsSsize i = true) (hin : (Txt.charAt x i).isSome = true) : GI c "str" (.str x) (.int i) (.str (Txt.item x i)) := ⟨fun A G s V₁ V₂ E _ g _ ⟨t, h₁⟩ ⟨u, h₂⟩ => by
  subst h₁ h₂; exact ⟨typeIs_str _ _ _, SB.getItem hf hin ⟨G, ⟨_, rfl⟩, Step.tok g _ _ (Nat.le_succ _)⟩⟩⟩
theorem HoldsL.get {G : PH w} : ∀ {xs : List PV} {vs : List Value} (k : Nat) {v : PV}, HoldsL G xs vs → xs[k]? = some v → ∃ V, vs[k]? = some V ∧ Holds G v V
  | [], _, _, _, _, e => by simp at e
  | x :: xs, vs, k, v, h, e => by
    obtain ⟨w, r, rfl, h1, h2⟩ := h
    cases k with
    | zero => simp at e; subst e; exact ⟨w, rfl, h1⟩
    | succ k => simpa using HoldsL.get k h2 (by simpa using e)
theorem GI_list {xs : List PV} {k : Nat} {v : PV} (hv : xs[k]? = some v) (hk : k < 2 ^ 62) : GI c "list" (.list xs) (.int k) v := ⟨fun A G s V₁ V₂ E _ g _ ⟨a, vs, n, h₁, ga, hl⟩ ⟨u, h₂⟩ => by
  subst h₁ h₂
  obtain ⟨V, e, hh⟩ := hl.get k hv
  have L : s.heap.IsList a vs.toArray := ⟨_, g.sub _ _ ga, rfl, n, rfl⟩
  exact ⟨L.typeIs, wpAny_getItem_list L (by omega) (by have : (2:Int)^62 = ((2^62 : Nat) : Int) := by decide
                                                       omega) (by simpa using e) ⟨G, hh, Step.refl g⟩⟩⟩

theorem Step.slice {A : Around} {G s} (g : GS c A G s) (l u : Value) (tk : Nat) (h : s.toks ≤ tk) : Step A (Bel s) G s (pin G s.heap.objs.size (slobj l u)) { s with heap := s.heap.push (slobj l u), toks := tk } := Step.push g _ rfl tk h

theorem Step.rest {A : Around} {n m : Addr → Prop} {G s G' s'} (x : Step A n G s G' s') (k : Nat) : Step0 A m G' s' G' { s' with toks := k } :=
  ⟨fun hk => ⟨x.sub, fun _ _ e => e, fun _ h1 h2 => absurd h1 h2, fun _ _ _ e _ _ => e, fun _ o _ e _ => ⟨o.slots, e⟩, rfl, id, x.tab, hk⟩⟩

theorem EX_slice_str {value : PySem.Expr} {lo hi : Option PySem.Expr} {p pos : Pos} {x : Str} {l u : Option Int} (h₁ : EX c d ns env Γ value (.str x)) (h₂ : EXO c d ns env Γ lo l) (h₃ : EXO c d ns env Γ hi u) (hx : x.length ≤ sizeLine) :
    EX c d ns env Γ (.Subscript value (.Slice lo hi none p) pos) (.str (Txt.slice x l u)) := ⟨fun A n₀ G s E rm S => by
  rw [eval_Subscript]
  refine wb (h₁.run A n₀ G s E rm S) (fun V₁ s₁ ⟨G₁, ⟨t, hh₁⟩, x₁⟩ => ?_)
  subst hh₁
  have S₁ := S.step x₁
  refine wbh (wpAny_Slice (wm (h₂.run A n₀ G₁ s₁ E rm S₁) (fun V₂ s₂ ⟨G₂, ⟨pl, e₂, hl⟩, x₂⟩ => ?_)))
  have S₂ := S₁.step x₂
  refine wm (h₃.run A n₀ G₂ s₂ E rm S₂) (fun V₃ s₃ ⟨G₃, ⟨pu, e₃, hu⟩, x₃⟩ => ?_)
  have S₃ := S₂.step x₃
  subst e₂ e₃ hl hu
  rw [evalPart_none]
  refine wpAny_pure (wbs ?_)
  refine sub_tail (T := "str") (vs := [.ref s₃.heap.objs.size, .str x t]) rfl F.slot_str_getitem.lookup (typeIs_str _ _ _) rfl ?_
  have x₄ := Step.slice S₃.gs (partValue pl) (partValue pu) s₃.toks (Nat.le_refl _)
  exact wpAny_mono (fixT (A := A) (s := { s₃ with heap := s₃.heap.push (slobj (partValue pl) (partValue pu)) }) (n₀ := Bel s₃) (G := pin G₃ s₃.heap.objs.size (slobj (partValue pl) (partValue pu)))
    (Φ := fun V G' _ => Holds G' (.str (Txt.slice x (pl.map (·.1)) (pu.map (·.1)))) V) (wpAny_getItem_str_slice (l := pl) (u := pu) (st := none) ⟨_, Heap.get?_push_size _ rfl, rfl, rfl⟩ rfl
      (post_val_or_str ⟨Nat.le_trans (Txt.slice_le x _ _) hx, fun t' k => ⟨pin G₃ s₃.heap.objs.size (slobj (partValue pl) (partValue pu)), ⟨t', rfl⟩, x₄.rest k⟩⟩)))
    (fun V s₅ ⟨G₅, hh, y⟩ => ⟨G₅, hh, ((x₁.then x₂).then x₃).then (x₄.trans y)⟩) fun _ _ e => e⟩


theorem EX_slice_list {value : PySem.Expr} {lo hi : Option PySem.Expr} {p pos : Pos} {xs ys : List PV} {l u : Option Int} (h₁ : EX c d ns env Γ value (.list xs)) (h₂ : EXO c d ns env Γ lo l) (h₃ : EXO c d ns env Γ hi u) (hx : xs.length ≤ sizeLine)
    (hy : ∀ (G : PH c.w) (vs : List Value), HoldsL G xs vs → HoldsL G ys (slicePick vs.toArray l u none).toList) :
    EX c d ns env Γ (.Subscript value (.Slice lo hi none p) pos) (.list ys) := ⟨fun A n₀ G s E rm S => by
  rw [eval_Subscript]
  refine wb (h₁.run A n₀ G s E rm S) (fun V₁ s₁ ⟨G₁, ⟨a, vs, n, hh₁, ga, hl₁⟩, x₁⟩ => ?_)
  subst hh₁
  have S₁ := S.step x₁
  refine wbh (wpAny_Slice (wm (h₂.run A n₀ G₁ s₁ E rm S₁) (fun V₂ s₂ ⟨G₂, ⟨pl, e₂, hl⟩, x₂⟩ => ?_)))
  have S₂ := S₁.step x₂
  refine wm (h₃.run A n₀ G₂ s₂ E rm S₂) (fun V₃ s₃ ⟨G₃, ⟨pu, e₃, hu⟩, x₃⟩ => ?_)
  have S₃ := S₂.step x₃
  subst e₂ e₃ hl hu
  rw [evalPart_none]
  refine wpAny_pure (wbs ?_)
  have L : s₃.heap.IsList a vs.toArray := ⟨_, S₃.gs.sub _ _ (x₃.le _ _ (x₂.le _ _ ga)), rfl, n, rfl⟩
  have P1 : ∀ q : Option (Int × Tok), IsPart (partValue q) (q.map (·.1)) := fun q => by
    cases q with
    | none => exact .none
    | some x => exact .int x.1 x.2
  have x₄ := Step.slice S₃.gs (partValue pl) (partValue pu) s₃.toks (Nat.le_refl _)
  have g₄ : GS c A _ { s₃ with heap := s₃.heap.push (slobj (partValue pl) (partValue pu)) } := S₃.gs.stepE x₄ S₃.big
  refine sub_tail (T := "list") (vs := [.ref s₃.heap.objs.size, .ref a]) rfl list_getitem_lookup (L.push _).typeIs rfl ?_
  refine wpAny_getItem_list_slice (L.push _) (Heap.IsSliceOf.new ..) (P1 pl) (P1 pu) .none (by simp) ?_ (by simp only [List.size_toArray]; rw [hl₁.length]; exact hx)
  have x₅ := Step.push g₄ { cls := .type "list", data := .seq (slicePick vs.toArray (pl.map (·.1)) (pu.map (·.1)) none) } rfl s₃.toks (Nat.le_refl _)
  refine ⟨_, ⟨_, (slicePick vs.toArray (pl.map (·.1)) (pu.map (·.1)) none).toList, 0, rfl, ?_, ?_⟩, (((x₁.then x₂).then x₃).then x₄).then x₅⟩
  · rw [pin_self]
  · exact hy _ _ (hl₁.mono fun b o e => x₅.le b o (x₄.le b o (x₃.le b o (x₂.le b o e))))⟩

theorem EX_tuple {elts : List PySem.Expr} {k : Nat} {pos : Pos} {vs : List PV} (h : EXL c d ns env Γ elts vs) (hx : vs.length ≤ sizeLine) : EX c d ns env Γ (.Tuple elts k pos) (.tuple vs) := ⟨fun A n₀ G s E rm S => by
  refine wpAny_Tuple_spliced (wm (h.run A n₀ G s E pos rm S) (fun Vs s₁ ⟨G₁, hh, x₁⟩ => ?_))
  have S₁ := S.step x₁
  refine ⟨by rw [hh.length]; exact hx, _, ⟨_, Vs, 0, rfl, pin_self, hh.mono (pin_le S₁.gs _)⟩, x₁.then (Step.push S₁.gs (tobj Vs 0) rfl s₁.toks (Nat.le_refl _))⟩⟩
theorem EX_list {elts : List PySem.Expr} {pos : Pos} {vs : List PV} (h : EXL c d ns env Γ elts vs) (hx : vs.length ≤ sizeLine) : EX c d ns env Γ (.List elts pos) (.list vs) := ⟨fun A n₀ G s E rm S => by
  refine wpAny_List_spliced (wm (h.run A n₀ G s E pos rm S) (fun Vs s₁ ⟨G₁, hh, x₁⟩ => ?_))
  have S₁ := S.step x₁
  refine ⟨by rw [hh.length]; exact hx, _, ⟨_, Vs, 0, rfl, pin_self, hh.mono (pin_le S₁.gs _)⟩, x₁.then (Step.push S₁.gs (lobj Vs 0) rfl s₁.toks (Nat.le_refl _))⟩⟩
end
end

section
inductive Out where
  | next (Γ : List Slot) | brk (Γ : List Slot) | ret (v : PV)

noncomputable def OutR (c : Ctx0) (ns : List (Str × NK)) (env : Env) (A : Around) (n₀ : Addr → Prop) (G : PH c.w) (s : Shared) : Out → Flow → Prop
  | .next Γ, fl => fl = .next ∧ St c ns env Γ A n₀ G s
  | .brk Γ, fl => fl = .brk ∧ St c ns env Γ A n₀ G s
  | .ret v, fl => ∃ V, fl = .ret V ∧ Holds G v V

noncomputable abbrev SP (c : Ctx0) (ns : List (Str × NK)) (env : Env) (A : Around) (n₀ : Addr → Prop) (G : PH c.w) (s : Shared) (o : Out) : Flow → Shared → Prop := fun fl s' => ∃ G', OutR c ns env A n₀ G' s' o fl ∧ Step A n₀ G s G' s'

structure SX (c : Ctx0) (d : Nat) (ns : List (Str × NK)) (env : Env) (Γ : List Slot) (st : Stmt) (o : Out) : Prop where
  run : ∀ (A : Around) (n₀ : Addr → Prop) (G : PH c.w) (s : Shared) (E : Value → Shared → Prop), Rm d A → St c ns env Γ A n₀ G s → wpAny c.M A (exec st env) (SP c ns env A n₀ G s o) E s
structure SXs (c : Ctx0) (d : Nat) (ns : List (Str × NK)) (env : Env) (Γ : List Slot) (sts : List Stmt) (o : Out) : Prop where
  run : ∀ (A : Around) (n₀ : Addr → Prop) (G : PH c.w) (s : Shared) (E : Value → Shared → Prop), Rm d A → St c ns env Γ A n₀ G s → wpAny c.M A (execs sts env) (SP c ns env A n₀ G s o) E s

noncomputable def clr (i : Nat) (Γ : List Slot) : List Slot := Γ.map fun sl => match sl with
  | .meth id j => if j = i then .un else .meth id j
  | sl => sl

section
variable {c : Ctx0} {d : Nat} {ns : List (Str × NK)} {env : Env} {Γ : List Slot}

theorem St.n0 {A n₀ G s} (S : St c ns env Γ A n₀ G s) : ∀ b, n₀ b → Bel s b := by
  obtain ⟨V, S⟩ := S
  exact S.bel

theorem clr_get {i k : Nat} {sl : Slot} (h : (clr i Γ)[k]? = some sl) : ∃ sl₀, Γ[k]? = some sl₀ ∧ (sl = sl₀ ∧ (∀ id, sl₀ ≠ .meth id i) ∨ sl = .un) := by
  unfold clr at h
  rw [List.getElem?_map] at h
  cases e : Γ[k]? with
  | none => rw [e] at h; cases h
  | some sl₀ =>
    rw [e] at h
    refine ⟨sl₀, rfl, ?_⟩
    cases sl₀ with
    | meth id j =>
      simp only [Option.map_some, Option.some.injEq] at h
      by_cases q : j = i
      · rw [if_pos q] at h; exact .inr h.symm
      · rw [if_neg q] at h; exact .inl ⟨h.symm, fun id' e => q (by cases e; rfl)⟩
    | un => simp at h; exact .inl ⟨h.symm, fun _ e => nomatch e⟩
    | val v => simp at h; exact .inl ⟨h.symm, fun _ e => nomatch e⟩
    | own v => simp at h; exact .inl ⟨h.symm, fun _ e => nomatch e⟩
    | odict v => simp at h; exact .inl ⟨h.symm, fun _ e => nomatch e⟩

noncomputable abbrev upd (V : Nat → Option Value) (i : Nat) (x : Value) : Nat → Option Value := fun j => if j = i then some x else V j

theorem GS.change {A G s} {b : Addr} {h' : Heap} {tk : Nat} (g : GS c A G s) (hs : Heap.SameBut b s.heap h') (hb : G b = none) (hd : ∃ o o', s.heap.get? b = some o ∧ h'.get? b = some o' ∧ (∀ vs, o.data ≠ .fields vs) ∧ ∀ vs, o'.data ≠ .fields vs) (htk : s.toks ≤ tk) :
    GS c A G { s with heap := h', toks := tk } := by
  obtain ⟨o, o', e, e', d, d'⟩ := hd
  have h86 : b ≠ 86 := tab_not g.tab e d
  have ne : ∀ {x y}, G x = some y → x ≠ b := fun {x y} h q => by rw [q, hb] at h; cases h
  refine ⟨g.hb, fun x y h => (hs.2 x (ne h)).trans (g.sub x y h), fun L hL => ⟨(g.fs L hL).1, ?_⟩, g.t86, ?_, Nat.le_trans g.tk htk⟩
  · by_cases q : L = b
    · exact ⟨o', by rw [q]; exact e', d'⟩
    · obtain ⟨_, y, ey, dy⟩ := g.fs L hL
      exact ⟨y, (hs.2 L q).trans ey, dy⟩
  · obtain ⟨ps, h1, h2⟩ := g.tab
    exact ⟨ps, (hs.2 86 (Ne.symm h86)).trans h1, h2⟩
theorem Step.change {A G s} {n₀ : Addr → Prop} {b : Addr} {h' : Heap} {tk : Nat} (g : GS c A G s) (g' : GS c A G { s with heap := h', toks := tk }) (hs : Heap.SameBut b s.heap h') (hn : ¬ n₀ b) (htk : s.toks ≤ tk) :
    Step A n₀ G s G { s with heap := h', toks := tk } where
  sub := g'.sub
  le := fun _ _ e => e
  new := fun _ h1 h2 => absurd h1 h2
  keep := fun x _ hx e _ _ => (hs.2 x (fun q => hn (q ▸ hx))).trans e
  fr := fun x o hx e _ => ⟨o.slots, (hs.2 x (fun q => hn (q ▸ hx))).trans e⟩
  os := rfl
  gens := id
  tab := g'.tab
  tk := htk

theorem sb_alive {b : Addr} {h h' : Heap} (hs : Heap.SameBut b h h') (hb : ∃ o, h'.get? b = some o) {a : Addr} (ha : ∃ o, h.get? a = some o) : ∃ o, h'.get? a = some o := by
  by_cases q : a = b
  · rw [q]; exact hb
  · obtain ⟨o, e⟩ := ha; exact ⟨o, (hs.2 a q).trans e⟩

theorem ns_obj {h : Heap} {L m} (hn : h.Ns L m) : ∃ o, h.get? L = some o ∧ (∀ vs, o.data ≠ .fields vs) ∧ ∀ v, o.data ≠ .cell v := by
  obtain ⟨o, es, ep, ho, hd, _⟩ := hn
  exact ⟨o, ho, (by rw [hd]; intro vs h; cases h), (by rw [hd]; intro v h; cases h)⟩

theorem slot_kept {A n₀ G s} {V : Nat → Option Value} {i k : Nat} {x : Value} {h' : Heap} {b : Addr} {sl : Slot} (S : StV c ns env Γ A n₀ G s V) (hs : Heap.SameBut b s.heap h')
    (hb : ∀ a o, s.heap.get? a = some o → a ≠ env.locals → (∀ v, o.data ≠ .cell v) → a ≠ b) (hk : (clr i Γ)[k]? = some sl) (hki : k ≠ i) : SlotR env.locals A n₀ G h' (upd V i x) sl (upd V i x k) := by
  obtain ⟨sl₀, e, q⟩ := clr_get hk
  have hV : upd V i x k = V k := if_neg hki
  rw [hV]
  rcases q with ⟨rfl, hm⟩ | rfl
  · have z := S.slot k _ e
    cases sl with
    | un => trivial
    | val v => exact z
    | own xs =>
      obtain ⟨a, vs, n, e, g, hL, hf, hn, hg, hv⟩ := z
      exact ⟨a, vs, n, e, g, hL, hf, hn, (hs.2 a (hb a _ hg hL (by intro v h; cases h))).trans hg, hv⟩
    | odict xs =>
      obtain ⟨a, vs, n, e, g, hL, hf, hn, hg, hq, hv⟩ := z
      exact ⟨a, vs, n, e, g, hL, hf, hn, (hs.2 a (hb a _ hg hL (by obtain ⟨_, _, _, _, hd, _⟩ := hq; rw [hd]; intro v h; cases h))).trans hg, hq, hv⟩
    | meth id j =>
      obtain ⟨a, b, e1, e2, e3⟩ := z
      refine ⟨a, b, e1, ?_, e3⟩
      show upd V i x j = _
      rw [show upd V i x j = V j from if_neg fun q => hm id (by rw [q])]
      exact e2
  · trivial

theorem names_ne (ok : EnvOK ns env) {i j : Nat} {x y : Str} {k k' : NK} (hi : ns[i]? = some (x, k)) (hj : ns[j]? = some (y, k')) (hij : j ≠ i) : y ≠ x := by
  intro q
  have h1 : (ns.map (·.1))[i]? = some x := by rw [List.getElem?_map, hi]; rfl
  have h2 : (ns.map (·.1))[j]? = some x := by rw [List.getElem?_map, hj, q]; rfl
  obtain ⟨l1, e1⟩ := List.getElem?_eq_some_iff.mp h1
  obtain ⟨l2, e2⟩ := List.getElem?_eq_some_iff.mp h2
  have nd := List.pairwise_iff_getElem.mp ok.nodup
  rcases Nat.lt_trichotomy i j with h | h | h
  · exact nd i j l1 l2 h (e1.trans e2.symm)
  · exact hij h.symm
  · exact nd j i l2 l1 h (e2.trans e1.symm)

theorem set_get {Γ : List Slot} {i k : Nat} {sl v : Slot} (h : (Γ.set i v)[k]? = some sl) : (k = i ∧ sl = v) ∨ (k ≠ i ∧ Γ[k]? = some sl) := by
  rw [List.getElem?_set] at h
  by_cases q : i = k
  · subst q
    rw [if_pos rfl] at h
    split at h
    · cases h; exact .inl ⟨rfl, rfl⟩
    · cases h
  · rw [if_neg q] at h; exact .inr ⟨fun e => q e.symm, h⟩

theorem apart_set {A n₀ G s V} {i : Nat} {v : Value} {sl : Slot} (S : StV c ns env Γ A n₀ G s V) (hap : sl.owned = true → ∀ j y, j ≠ i → Γ[j]? = some y → y.owned = true → V j ≠ some v) :
    ∀ (a b : Nat) x y, a ≠ b → ((clr i Γ).set i sl)[a]? = some x → ((clr i Γ).set i sl)[b]? = some y → x.owned = true → y.owned = true → upd V i v a ≠ upd V i v b := by
  intro a b p q hab ha hb hp hq
  rcases set_get ha with ⟨rfl, rfl⟩ | ⟨na, ha⟩
  · rcases set_get hb with ⟨rfl, rfl⟩ | ⟨nb, hb⟩
    · exact absurd rfl hab
    · obtain ⟨q0, e, hq0⟩ := clr_get hb
      rcases hq0 with ⟨rfl, _⟩ | rfl
      · rw [show upd V a v a = some v from if_pos rfl, show upd V a v b = V b from if_neg nb]
        exact fun z => hap hp b _ nb e hq z.symm
      · cases hq
  · obtain ⟨p0, ep, hp0⟩ := clr_get ha
    rcases hp0 with ⟨rfl, _⟩ | rfl
    · rcases set_get hb with ⟨rfl, rfl⟩ | ⟨nb, hb⟩
      · rw [show upd V b v b = some v from if_pos rfl, show upd V b v a = V a from if_neg na]
        exact hap hq a _ na ep hp
      · obtain ⟨q0, e, hq0⟩ := clr_get hb
        rcases hq0 with ⟨rfl, _⟩ | rfl
        · rw [show upd V i v a = V a from if_neg na, show upd V i v b = V b from if_neg nb]
          exact S.apart a b _ _ hab ep e hp hq
        · cases hq
    · cases hp

theorem lookup_mem {α : Type} {l : List (Str × α)} {x : Str} {a : α} (h : l.lookup x = some a) : (x, a) ∈ l := mem_of_lookup h
theorem store_core (ok : EnvOK ns env) {i : Nat} {x : Str} {k : NK} (hi : ns[i]? = some (x, k)) (hk : k ≠ .cap) {A n₀ G s V} (S : StV c ns env Γ A n₀ G s V) {v : Value} {sl : Slot}
    (hsl : ∀ h' b, Heap.SameBut b s.heap h' → (∀ a o, s.heap.get? a = some o → a ≠ env.locals → (∀ v, o.data ≠ .cell v) → a ≠ b) → SlotR env.locals A n₀ G h' (upd V i v) sl (some v))
    (hap : sl.owned = true → ∀ j y, j ≠ i → Γ[j]? = some y → y.owned = true → V j ≠ some v) {E : Value → Shared → Prop} :
    wpAny c.M A (storeName env x v) (fun _ s' => Step A n₀ G s G s' ∧ StV c ns env ((clr i Γ).set i sl) A n₀ G s' (upd V i v)) E s := by
  obtain ⟨m, hn, hm⟩ := S.loc
  obtain ⟨oL, eL, dL1, dL3⟩ := ns_obj hn
  have hap' := apart_set (i := i) (v := v) (sl := sl) S hap
  cases k with
  | cap => exact absurd rfl hk
  | loc =>
    refine wpAny_storeName_local (ok.loc i x hi) hn (fun h' hn' hs' => ?_) (by rw [ok.fn]; rfl)
    obtain ⟨oL', eL', dL1', _⟩ := ns_obj hn'
    have g' := S.gs.change hs' S.lL.1 ⟨oL, oL', eL, eL', dL1, dL1'⟩ (Nat.le_succ s.toks)
    have hb : ∀ a o, s.heap.get? a = some o → a ≠ env.locals → (∀ v, o.data ≠ .cell v) → a ≠ env.locals := fun _ _ _ h _ => h
    refine ⟨Step.change S.gs g' hs' S.lL.2 (Nat.le_succ _), g', S.base, fun b hb => (sb_alive hs' ⟨oL', eL'⟩ (S.bel b hb)), S.fsl, ?_, S.lL, ?_, ?_, hap'⟩
    · refine ⟨_, hn', fun j y hj => ?_⟩
      by_cases q : j = i
      · subst q
        rw [hi] at hj; cases hj
        simp [upd]
      · have := names_ne ok hi hj q
        show (if y = x then some v else m y) = upd V i v j
        rw [if_neg this, show upd V i v j = V j from if_neg q]
        exact hm j y hj
    · intro j y kk hj hkk
      have q : j ≠ i := fun q => by subst q; rw [hi] at hj; cases hj; exact hkk rfl
      obtain ⟨a, h1, h2, h3⟩ := S.cel j y kk hj hkk
      refine ⟨a, h1, ?_, h3⟩
      rw [show upd V i v j = V j from if_neg q]
      obtain ⟨o, ho, hd⟩ := h2
      exact ⟨o, (hs'.2 a fun e => by rw [e, eL] at ho; cases ho; exact dL3 _ hd).trans ho, hd⟩
    · intro j sl' hj
      rcases set_get hj with ⟨rfl, rfl⟩ | ⟨nj, hj⟩
      · rw [show upd V j v j = some v from if_pos rfl]
        exact hsl h' _ hs' hb
      · exact slot_kept S hs' hb hj nj
  | own =>
    obtain ⟨a, h1, h2, h3⟩ := S.cel i x .own hi (by decide)
    have h3 := h3 rfl
    refine wpAny_storeName_cell ok.fn (ok.own i x hi) h1 h2 fun h' hc' hs' => ?_
    obtain ⟨oc, ec, dc⟩ := h2
    obtain ⟨oc', ec', dc'⟩ := hc'
    have g' := S.gs.change (tk := s.toks) hs' h3.1 ⟨oc, oc', ec, ec', (by rw [dc]; intro vs h; cases h), (by rw [dc']; intro vs h; cases h)⟩ (Nat.le_refl _)
    have hb : ∀ b o, s.heap.get? b = some o → b ≠ env.locals → (∀ v, o.data ≠ .cell v) → b ≠ a := fun b o e _ h q => by rw [q, ec] at e; cases e; exact h _ dc
    have hLa : env.locals ≠ a := fun q => by rw [q, ec] at eL; cases eL; exact dL3 _ dc
    refine ⟨Step.change S.gs g' hs' h3.2 (Nat.le_refl _), g', S.base, fun b hb => (sb_alive hs' ⟨oc', ec'⟩ (S.bel b hb)), S.fsl, ?_, S.lL, ?_, ?_, hap'⟩
    · refine ⟨m, hn.sameBut hs' hLa, fun j y hj => ?_⟩
      have q : j ≠ i := fun q => by subst q; rw [hi] at hj; cases hj
      rw [show upd V i v j = V j from if_neg q]
      exact hm j y hj
    · intro j y kk hj hkk
      by_cases q : j = i
      · subst q
        rw [hi] at hj; cases hj
        refine ⟨a, h1, ?_, fun _ => h3⟩
        rw [show upd V j v j = some v from if_pos rfl]
        exact ⟨oc', ec', dc'⟩
      · obtain ⟨a', k1, k2, k3⟩ := S.cel j y kk hj hkk
        refine ⟨a', k1, ?_, k3⟩
        rw [show upd V i v j = V j from if_neg q]
        have hne : a' ≠ a := fun e => names_ne ok hi hj q (name_of_addr ok.apart (lookup_mem k1) (e ▸ lookup_mem h1))
        exact k2.sameBut hs' hne
    · intro j sl' hj
      rcases set_get hj with ⟨rfl, rfl⟩ | ⟨nj, hj⟩
      · rw [show upd V j v j = some v from if_pos rfl]
        exact hsl h' _ hs' hb
      · exact slot_kept S hs' hb hj nj

theorem store_val (ok : EnvOK ns env) {i : Nat} {x : Str} {k : NK} (hi : ns[i]? = some (x, k)) (hk : k ≠ .cap) {A n₀ G s} (S : St c ns env Γ A n₀ G s) {V : Value} {v : PV} (hv : Holds G v V) {E : Value → Shared → Prop} :
    wpAny c.M A (storeName env x V) (fun _ s' => Step A n₀ G s G s' ∧ St c ns env ((clr i Γ).set i (.val v)) A n₀ G s') E s := by
  obtain ⟨W, S⟩ := S
  exact wm (store_core ok hi hk S (sl := .val v) (fun _ _ _ _ => ⟨V, rfl, hv⟩) (fun h => nomatch h)) (fun _ _ ⟨x, y⟩ => ⟨x, _, y⟩)

theorem SXs_nil : SXs c d ns env Γ [] (.next Γ) := ⟨fun A n₀ G s E _ S => wpAny_execs_nil ⟨G, ⟨rfl, S⟩, Step.refl S.gs⟩⟩
theorem SXs_cons {st sts Γ₁ o} (h₁ : SX c d ns env Γ st (.next Γ₁)) (h₂ : SXs c d ns env Γ₁ sts o) : SXs c d ns env Γ (st :: sts) o := ⟨fun A n₀ G s E rm S => by
  refine wpAny_execs_cons (wm (h₁.run A n₀ G s E rm S) (fun fl s₁ ⟨G₁, ⟨e, S₁⟩, x₁⟩ => ?_))
  subst e
  exact wm (h₂.run A n₀ G₁ s₁ E rm S₁) (fun fl s₂ ⟨G₂, o, x₂⟩ => ⟨G₂, o, x₁.trans x₂⟩)⟩
theorem SXs_ret {st sts v} (h₁ : SX c d ns env Γ st (.ret v)) : SXs c d ns env Γ (st :: sts) (.ret v) := ⟨fun A n₀ G s E rm S => by
  refine wpAny_execs_cons (wm (h₁.run A n₀ G s E rm S) (fun fl s₁ hpt => ?_))
  obtain ⟨G₁, ⟨V, e, hv⟩, x₁⟩ := hpt
  subst e
  exact ⟨G₁, ⟨V, rfl, hv⟩, x₁⟩⟩
theorem SXs_brk {st sts Γ₁} (h₁ : SX c d ns env Γ st (.brk Γ₁)) : SXs c d ns env Γ (st :: sts) (.brk Γ₁) := ⟨fun A n₀ G s E rm S => by
  refine wpAny_execs_cons (wm (h₁.run A n₀ G s E rm S) (fun fl s₁ ⟨G₁, ⟨e, S₁⟩, x₁⟩ => ?_))
  subst e
  exact ⟨G₁, ⟨rfl, S₁⟩, x₁⟩⟩

theorem SX_ret {e pos v} (h : EX c d ns env Γ e v) : SX c d ns env Γ (.Return (some e) pos) (.ret v) := ⟨fun A n₀ G s E rm S =>
  wpAny_Return_some (wm (h.run A n₀ G s E rm S) (fun V s₁ ⟨G₁, hv, x₁⟩ => ⟨G₁, ⟨V, rfl, hv⟩, x₁.up S.n0⟩))⟩
theorem SX_brk {pos} : SX c d ns env Γ (.Break pos) (.brk Γ) := ⟨fun A n₀ G s E _ S => wpAny_Break ⟨G, ⟨rfl, S⟩, Step.refl S.gs⟩⟩
theorem SX_if {t b₁ b₂ pos b o} (h : TX c d ns env Γ t b) (h₁ : b = true → SXs c d ns env Γ b₁ o) (h₂ : b = false → SXs c d ns env Γ b₂ o) : SX c d ns env Γ (.If t b₁ b₂ pos) o := ⟨fun A n₀ G s E rm S => by
  refine wpAny_If (wm (h.run A n₀ G s E rm S) (fun b' s₁ ⟨G₁, e, x₁⟩ => ?_))
  subst e
  have S₁ := S.step x₁
  cases b' with
  | true =>
    first | simp only [if_true] | skip
    exact wm ((h₁ rfl).run A n₀ G₁ s₁ E rm S₁) (fun fl s₂ ⟨G₂, o, x₂⟩ => ⟨G₂, o, (x₁.up S.n0).trans x₂⟩)
  | false =>
    first | simp only [Bool.false_eq_true, if_false] | skip
    exact wm ((h₂ rfl).run A n₀ G₁ s₁ E rm S₁) (fun fl s₂ ⟨G₂, o, x₂⟩ => ⟨G₂, o, (x₁.up S.n0).trans x₂⟩)⟩

theorem SX_assign (ok : EnvOK ns env) (i : Nat) {x : Str} {k : NK} {np pos : Pos} {e : PySem.Expr} {v : PV} (hi : ns[i]? = some (x, k)) (hk : k ≠ .cap) (h : EX c d ns env Γ e v)
    (hs : swapsWith e (some (.Name x np)) pos.line env = pure false) : SX c d ns env Γ (.Assign [.Name x np] e pos) (.next ((clr i Γ).set i (.val v))) := ⟨fun A n₀ G s E rm S => by
  rw [exec_Assign_Name _ _ _ _ _ hs]
  refine wbs (wb (h.run A n₀ G s E rm S) (fun V s₁ ⟨G₁, hv, x₁⟩ => wbs (wpAny_bind (wpAny_bindName ?_))))
  have S₁ := S.step x₁
  exact wm (store_val ok hi hk S₁ hv) (fun _ s₂ ⟨x₂, S₂⟩ => wpAny_pure ⟨G₁, ⟨rfl, S₂⟩, (x₁.up S.n0).trans x₂⟩)⟩
end
end

section
structure DefAt (c : Ctx0) (f : Addr) (fd : FuncData) : Prop where
  at_ : ∃ o, c.hb.get? f = some o ∧ o.data = .func fd
  code : c.hb.CodeRec fd.code fd.qualname
  globals : fd.globals = mainGlobals
  builtins : fd.builtins = builtinsNs
  closure : fd.closure = []

theorem FS_deeper {A : Around} {env : Env} {F : List Env} {L : Addr} (h : A.frames = some F) (hf : env.frame = some L) : FS (A.deeper env) = L :: FS A := by
  unfold FS
  rw [Around.frames_deeper h, h]
  simp [hf]

theorem Rm.deeper {d A} (r : Rm (d + 1) A) {env : Env} (hk : env.scope.kind = .function) (hf : env.frame.isSome = true) : Rm d (A.deeper env) := by
  obtain ⟨F, hF, hall⟩ := r.frames
  refine ⟨r.handled, ⟨env :: F, Around.frames_deeper hF, ?_⟩, ?_, ?_⟩
  · intro e he
    rcases List.mem_cons.mp he with rfl | he
    · exact ⟨hk, hf⟩
    · exact hall e he
  · have := r.depth; show A.depth + 1 + d < _; omega
  · have := r.units; show A.units + 3 + 8 * d + 40 < _; omega

theorem bindLC_other (kindOf : Str → Option NameKind) : ∀ (ps : List Str) (Vs : List Value) (x : Str) (m : Str → Option Value), x ∉ ps →
    bindL kindOf (ps.zip Vs) m x = m x ∧ bindC kindOf (ps.zip Vs) m x = m x
  | [], _, x, m, _ => ⟨rfl, rfl⟩
  | _ :: _, [], x, m, _ => ⟨rfl, rfl⟩
  | p :: ps, V :: Vs, x, m, h => by
    have hp : x ≠ p := fun e => h (e ▸ List.mem_cons_self)
    have hr : x ∉ ps := fun e => h (List.mem_cons_of_mem _ e)
    have ih := fun m => bindLC_other kindOf ps Vs x m hr
    rw [List.zip_cons_cons]
    unfold bindL bindC
    constructor
    · rw [(ih _).1]; split <;> simp [hp]
    · rw [(ih _).2]; split <;> simp [hp]

theorem bindLC_get (kindOf : Str → Option NameKind) : ∀ (ps : List Str) (Vs : List Value) (i : Nat) (x : Str) (v : Value) (m cm : Str → Option Value), ps.Nodup → ps[i]? = some x → Vs[i]? = some v →
    (kindOf x = some .local → bindL kindOf (ps.zip Vs) m x = some v) ∧ (kindOf x ≠ some .local → bindC kindOf (ps.zip Vs) cm x = some v)
  | [], _, _, _, _, _, _, _, h, _ => by simp at h
  | _ :: _, [], _, _, _, _, _, _, _, h => by simp at h
  | p :: ps, V :: Vs, 0, x, v, m, cm, nd, h1, h2 => by
    simp only [List.getElem?_cons_zero, Option.some.injEq] at h1 h2
    subst h1 h2
    have hn : p ∉ ps := (List.nodup_cons.mp nd).1
    rw [List.zip_cons_cons]
    unfold bindL bindC
    refine ⟨fun hk => ?_, fun hk => ?_⟩
    · rw [if_pos hk, (bindLC_other kindOf ps Vs p _ hn).1]; simp
    · rw [if_neg hk, (bindLC_other kindOf ps Vs p _ hn).2]; simp
  | p :: ps, V :: Vs, i + 1, x, v, m, cm, nd, h1, h2 => by
    simp only [List.getElem?_cons_succ] at h1 h2
    rw [List.zip_cons_cons]
    unfold bindL bindC
    exact bindLC_get kindOf ps Vs i x v _ _ (List.nodup_cons.mp nd).2 h1 h2


noncomputable def start (args : List PV) (k : Nat) : List Slot := args.map .val ++ List.replicate k .un

theorem start_get {args : List PV} {k i : Nat} {sl : Slot} (h : (start args k)[i]? = some sl) : (∃ v, args[i]? = some v ∧ sl = .val v) ∨ sl = .un := by
  unfold start at h
  rw [List.getElem?_append] at h
  split at h
  · rw [List.getElem?_map] at h
    cases e : args[i]? with
    | none => rw [e] at h; cases h
    | some v => rw [e] at h; cases h; exact .inl ⟨v, rfl, rfl⟩
  · rw [List.getElem?_replicate] at h
    split at h
    · cases h; exact .inr rfl
    · cases h

theorem HoldsL.vals {G : PH w} {args : List PV} {Vs : List Value} (h : HoldsL G args Vs) {i : Nat} {v : PV} (hi : args[i]? = some v) : ∃ V, Vs[i]? = some V ∧ Holds G v V := h.get i hi

theorem FN_def {c : Ctx0} (C : Cok c) {d : Nat} {f : Addr} {fd : FuncData} {body : List Stmt} {ns : List (Str × NK)} {args : List PV} {v : PV} (ps : List Str) (k : Nat) (D : DefAt c f fd) (hbody : fd.body = .stmts body)
    (hns : ∀ (i : Nat) x, ps[i]? = some x → ∃ kk, ns[i]? = some (x, kk)) (hcap : ∀ (i : Nat) x kk, ns[i]? = some (x, kk) → kk ≠ .cap) (hps : ps.Nodup) (hlen : args.length = ps.length)
    (hbind : ∀ Vs : List Value, Vs.length = ps.length → bindArgs fd ⟨Vs, []⟩ = pure (ps.zip Vs))
    (hok : ∀ L, EnvOK ns (callEnvC fd L f)) (hcells : ∀ L (i : Nat) x, ns[i]? = some (x, .own) → ((callEnvC fd L f).cells.lookup x).isSome = true)
    (hb : ∀ L, SXs c d ns (callEnvC fd L f) (start args k) body (.ret v))
    (hco : fd.scope.isCoroutine = false) (hgen : fd.scope.isGenerator = false) : FN c (d + 1) (.ref f) args v := ⟨fun A G s Vs E rm g big hh => by
  obtain ⟨o, ho, hd⟩ := D.at_
  refine wpAny_call (codeAny_call_function (by have := rm.depth; omega) (g.up _ _ ho) hd hco hgen hbody (D.code.keeps g.up) ?_)
  have hl : Vs.length = ps.length := hh.length.trans hlen
  rw [hbind Vs hl, D.closure]
  have hk : fd.scope.kind = .function := (hok 0).fn
  have kindEq : ∀ L x, (callEnvC fd L f).kindOf x = fd.scope.names.lookup x := fun _ _ => rfl
  refine wpAny_pure (wpAny_mono (wpAny_toks (wpAny_newFunctionEnv_cells (Q := fun env s' => env = callEnvC fd s.heap.objs.size f ∧
    InCallC s env.locals (bindL env.kindOf (ps.zip Vs) fun _ => none) env.cells (bindC env.kindOf (ps.zip Vs) fun _ => none) s') hk (fun x hx => ?_) fun env he s' x => ⟨he, he ▸ x⟩)) ?_ fun _ _ e => e.2)
  · obtain ⟨i, hi⟩ := List.getElem?_of_mem hx
    have hxp : ps[i]? = some x.1 := by
      rw [List.getElem?_zip_eq_some] at hi; exact hi.1
    obtain ⟨kk, hkk⟩ := hns i x.1 hxp
    cases kk with
    | loc => exact .inl ((hok 0).loc i _ hkk)
    | own => exact .inr ⟨(hok 0).own i _ hkk, hcells s.heap.objs.size i _ hkk⟩
    | cap => exact absurd rfl (hcap _ _ _ hkk)
  · rintro env s₁ ⟨htk, rfl, X⟩
    have keep := X.toInCall.keep
    refine ⟨C.nolimit.keeps fun b o e => keep b o (g.up b o e), codeAny_func ?_⟩
    obtain ⟨F, hF, hall⟩ := rm.frames
    have hL : (callEnvC fd s.heap.objs.size f).locals = s.heap.objs.size := rfl
    have hfs : FS (A.deeper (callEnvC fd s.heap.objs.size f)) = s.heap.objs.size :: FS A := FS_deeper hF rfl
    have Gn : ∀ b, s.heap.objs.size ≤ b → G b = none := fun b hb => by
      cases e : G b with
      | none => rfl
      | some o => exact absurd (Heap.lt_size (g.sub b o e)) (Nat.not_lt.mpr hb)
    obtain ⟨h₁, tk₁, e₁⟩ := X.toInCall.same
    obtain ⟨oL, eL, dL, dL3⟩ := ns_obj X.toInCall.ns
    have tab₁ : TabOk G s₁.heap := let ⟨ps, p1, p2⟩ := g.tab; ⟨ps, keep _ _ p1, p2⟩
    have x₀ : Step A (Bel s) G s G s₁ := ⟨fun b o e => keep b o (g.sub b o e), fun _ _ e => e, fun _ h1 h2 => absurd h1 h2, fun b o _ e _ _ => keep b o e, fun b o _ e _ => ⟨o.slots, keep b o e⟩,
      by rw [e₁], by rw [e₁]; exact id, tab₁, htk⟩
    have g₁ : GS c (A.deeper (callEnvC fd s.heap.objs.size f)) G s₁ := by
      refine ⟨g.hb, x₀.sub, ?_, g.t86, tab₁, Nat.le_trans g.tk htk⟩
      intro L hLm
      rw [hfs] at hLm
      rcases List.mem_cons.mp hLm with rfl | hLm
      · exact ⟨Gn _ (Nat.le_refl _), oL, eL, dL⟩
      · obtain ⟨q1, o, q2, q3⟩ := g.fs L hLm
        exact ⟨q1, o, keep _ _ q2, q3⟩
    have ok := hok s.heap.objs.size
    let V : Nat → Option Value := fun i => match ns[i]? with
      | some (x, .loc) => bindL (callEnvC fd s.heap.objs.size f).kindOf (ps.zip Vs) (fun _ => none) x
      | some (x, _) => bindC (callEnvC fd s.heap.objs.size f).kindOf (ps.zip Vs) (fun _ => none) x
      | none => none
    have SV : StV c ns (callEnvC fd s.heap.objs.size f) (start args k) (A.deeper (callEnvC fd s.heap.objs.size f)) (Bel s) G s₁ V := by
      refine ⟨g₁, (let ⟨_, h1, _⟩ := g.tab; ⟨_, h1⟩), fun b ⟨o, e⟩ => ⟨o, keep b o e⟩, ?_, ⟨_, X.toInCall.ns, ?_⟩, ⟨Gn _ (Nat.le_refl _), fun ⟨_, e⟩ => Nat.lt_irrefl _ (Heap.lt_size e)⟩, ?_, ?_, ?_⟩
      · intro L hLm
        rw [hfs] at hLm
        rcases List.mem_cons.mp hLm with rfl | hLm
        · exact .inr rfl
        · exact .inl (FS_lt g hLm)
      · intro i x hi
        show _ = V i
        simp only [V, hi]
      · intro i x kk hi hkk
        cases kk with
        | loc => exact absurd rfl hkk
        | cap => exact absurd rfl (hcap _ _ _ hi)
        | own =>
          obtain ⟨a, ha⟩ := Option.isSome_iff_exists.mp (hcells s.heap.objs.size i x hi)
          refine ⟨a, ha, ?_, fun _ => ?_⟩
          · show s₁.heap.IsCell a (V i)
            simp only [V, hi]
            exact X.cell x a ha
          · have := X.above x a (mem_of_lookup ha)
            exact ⟨Gn a (Nat.le_of_lt this), fun ⟨_, e⟩ => Nat.lt_asymm this (Heap.lt_size e)⟩
      · intro i sl hsl
        rcases start_get hsl with ⟨u, hu, rfl⟩ | rfl
        · obtain ⟨W, hW, hold⟩ := hh.vals hu
          have hip : i < ps.length := by
            rw [← hlen]; exact (List.getElem?_eq_some_iff.mp hu).1
          have hpi : ps[i]? = some ps[i] := List.getElem?_eq_getElem hip
          obtain ⟨kk, hkk⟩ := hns i _ hpi
          have B := bindLC_get (callEnvC fd s.heap.objs.size f).kindOf ps Vs i _ W (fun _ => none) (fun _ => none) hps hpi hW
          refine ⟨W, ?_, hold⟩
          show V i = some W
          simp only [V, hkk]
          cases kk with
          | loc => exact B.1 (ok.loc i _ hkk)
          | own => exact B.2 (by rw [ok.own i _ hkk]; decide)
          | cap => exact absurd rfl (hcap _ _ _ hkk)
        · trivial
      · intro i j x y _ hx _ ho _
        rcases start_get hx with ⟨u, _, rfl⟩ | rfl <;> cases ho
    refine wm ((hb s.heap.objs.size).run _ (Bel s) G s₁ _ (rm.deeper hk rfl) ⟨V, SV⟩) (fun fl s₂ hpt => ?_)
    obtain ⟨G₂, ⟨W, e, hv⟩, x₂⟩ := hpt
    subst e
    refine ⟨G₂, hv, x₀.trans ⟨x₂.sub, x₂.le, x₂.new, fun b o hb e h86 hf => x₂.keep b o hb e h86 ?_, x₂.fr, x₂.os, x₂.gens, x₂.tab, x₂.tk⟩⟩
    rw [hfs]
    intro q
    rcases List.mem_cons.mp q with rfl | q
    · obtain ⟨_, e⟩ := hb; exact Nat.lt_irrefl _ (Heap.lt_size e)
    · exact hf q⟩
end

section
noncomputable abbrev SF (α : Type) := List Slot → Option α

structure CE (c : Ctx0) (d : Nat) (ns : List (Str × NK)) (env : Env) (e : PySem.Expr) (F : SF PV) : Prop where
  run : ∀ Γ v, F Γ = some v → EX c d ns env Γ e v
structure CT (c : Ctx0) (d : Nat) (ns : List (Str × NK)) (env : Env) (e : PySem.Expr) (F : SF PV) : Prop where
  run : ∀ Γ v, F Γ = some v → EXT c d ns env Γ e v
structure CB (c : Ctx0) (d : Nat) (ns : List (Str × NK)) (env : Env) (e : PySem.Expr) (F : SF Bool) : Prop where
  run : ∀ Γ v, F Γ = some v → TX c d ns env Γ e v
structure CL (c : Ctx0) (d : Nat) (ns : List (Str × NK)) (env : Env) (es : List PySem.Expr) (F : SF (List PV)) : Prop where
  run : ∀ Γ v, F Γ = some v → EXL c d ns env Γ es v
structure CO_ (c : Ctx0) (d : Nat) (ns : List (Str × NK)) (env : Env) (e : Option PySem.Expr) (F : SF (Option Int)) : Prop where
  run : ∀ Γ v, F Γ = some v → EXO c d ns env Γ e v
structure C1 (c : Ctx0) (d : Nat) (ns : List (Str × NK)) (env : Env) (st : Stmt) (F : SF Out) : Prop where
  run : ∀ Γ v, F Γ = some v → SX c d ns env Γ st v
structure CS (c : Ctx0) (d : Nat) (ns : List (Str × NK)) (env : Env) (st : List Stmt) (F : SF Out) : Prop where
  run : ∀ Γ v, F Γ = some v → SXs c d ns env Γ st v
structure FF (c : Ctx0) (d : Nat) (f : Value) (F : List PV → Option PV) : Prop where
  run : ∀ args v, F args = some v → FN c d f args v
structure FFV (c : Ctx0) (d : Nat) (f : Value) (F : List PV → Option PV) : Prop where
  run : ∀ args v, F args = some v → FNV c d f args v

structure Gl (c : Ctx0) (d : Nat) (x : Str) (F : List PV → Option PV) : Prop where
  at_ : ∃ V, GV c x V ∧ Callee c V ∧ FF c d V F
structure GlV (c : Ctx0) (d : Nat) (x : Str) (F : List PV → Option PV) : Prop where
  at_ : ∃ V, GV c x V ∧ Callee c V ∧ FFV c d V F

noncomputable def findN : List (Str × NK) → Str → Nat → Option (Nat × NK)
  | [], _, _ => none
  | (y, k) :: r, x, n => if y = x then some (n, k) else findN r x (n + 1)
theorem findN_spec : ∀ {ns : List (Str × NK)} {x : Str} {n i : Nat} {k : NK}, findN ns x n = some (i, k) → n ≤ i ∧ ns[i - n]? = some (x, k)
  | [], _, _, _, _, h => by cases h
  | (y, k') :: r, x, n, i, k, h => by
    unfold findN at h
    split at h
    · rename_i e; cases h; subst e; simp
    · obtain ⟨h1, h2⟩ := findN_spec h
      refine ⟨by omega, ?_⟩
      have : i - n = (i - (n + 1)) + 1 := by omega
      rw [this]; simpa using h2
theorem findN_get {ns : List (Str × NK)} {x : Str} {i : Nat} {k : NK} (h : findN ns x 0 = some (i, k)) : ns[i]? = some (x, k) := by simpa using (findN_spec h).2

noncomputable def rd (i : Nat) : SF PV := fun Γ => match Γ[i]? with
  | some (.val v) => some v
  | _ => none
noncomputable def rdT (i : Nat) : SF PV := fun Γ => match Γ[i]? with
  | some (.val v) => some v
  | some (.own xs) => some (.list xs)
  | _ => none
theorem rd_eq {i Γ v} (h : rd i Γ = some v) : Γ[i]? = some (.val v) := by
  unfold rd at h; split at h
  · cases h; assumption
  · cases h

structure EnvK (ns : List (Str × NK)) (nm : List (Str × NameKind)) (env : Env) : Prop where
  ok : EnvOK ns env
  kinds : ∀ x, env.kindOf x = nm.lookup x
  block : env.blockKind = .function

section
variable {c : Ctx0} {d : Nat} {ns : List (Str × NK)} {nm : List (Str × NameKind)} {env : Env}

theorem nsome {α : Type _} {x : α} {P : Prop} (h : none = some x) : P := nomatch h
noncomputable def aStr : PV → Option Str | .str x => some x | _ => none
theorem aStr_eq {v x} : aStr v = some x → v = .str x := by
  cases v with
  | str y => exact fun h => congrArg PV.str (Option.some.inj h)
  | _ => exact nsome
noncomputable def aInt : PV → Option Int | .int x => some x | _ => none
theorem aInt_eq {v x} : aInt v = some x → v = .int x := by
  cases v with
  | int y => exact fun h => congrArg PV.int (Option.some.inj h)
  | _ => exact nsome
noncomputable def aBool : PV → Option Bool | .bool x => some x | _ => none
theorem aBool_eq {v x} : aBool v = some x → v = .bool x := by
  cases v with
  | bool y => exact fun h => congrArg PV.bool (Option.some.inj h)
  | _ => exact nsome
noncomputable def aList : PV → Option (List PV) | .list x => some x | _ => none
theorem aList_eq {v x} : aList v = some x → v = .list x := by
  cases v with
  | list y => exact fun h => congrArg PV.list (Option.some.inj h)
  | _ => exact nsome
noncomputable def aTup : PV → Option (List PV) | .tuple x => some x | _ => none
theorem aTup_eq {v x} : aTup v = some x → v = .tuple x := by
  cases v with
  | tuple y => exact fun h => congrArg PV.tuple (Option.some.inj h)
  | _ => exact nsome
noncomputable def aRaw : PV → Option Value | .raw x => some x | _ => none
theorem aRaw_eq {v x} : aRaw v = some x → v = .raw x := by
  cases v with
  | raw y => exact fun h => congrArg PV.raw (Option.some.inj h)
  | _ => exact nsome
noncomputable def vTy : Value → Option String | .type n => some n | _ => none
theorem vTy_eq {v n} : vTy v = some n → v = .type n := by
  cases v with
  | type y => exact fun h => congrArg Value.type (Option.some.inj h)
  | _ => exact nsome
noncomputable def aTy (v : PV) : Option String := (aRaw v).bind vTy
theorem aTy_eq {v n} (h : aTy v = some n) : v = .raw (.type n) := by
  obtain ⟨a, e, h⟩ := Option.bind_eq_some_iff.mp h
  rw [aRaw_eq e, vTy_eq h]
noncomputable def args1 {α : Type} : List α → Option α | [a] => some a | _ => none
theorem args1_eq {α : Type} {l : List α} {a} : args1 l = some a → l = [a] := by
  cases l with
  | nil => exact nsome
  | cons b r => cases r with
    | nil => exact fun h => congrArg (fun x => [x]) (Option.some.inj h)
    | cons _ _ => exact nsome
noncomputable def argsC {α : Type} : List α → Option (α × List α) | a :: r => some (a, r) | _ => none
theorem argsC_eq {α : Type} {l : List α} {a} : argsC l = some a → l = a.1 :: a.2 := by
  cases l with
  | nil => exact nsome
  | cons b r => exact fun h => congrArg (fun p => p.1 :: p.2) (Option.some.inj h)
noncomputable def args2 {α : Type} (l : List α) : Option (α × α) := (argsC l).bind fun p => (args1 p.2).map fun b => (p.1, b)
theorem args2_eq {α : Type} {l : List α} {a} (h : args2 l = some a) : l = [a.1, a.2] := by
  obtain ⟨p, hp, h⟩ := Option.bind_eq_some_iff.mp h
  obtain ⟨b, hb, rfl⟩ := Option.map_eq_some_iff.mp h
  rw [argsC_eq hp, args1_eq hb]
noncomputable def args3 {α : Type} (l : List α) : Option (α × α × α) := (argsC l).bind fun p => (args2 p.2).map fun b => (p.1, b)
theorem args3_eq {α : Type} {l : List α} {a} (h : args3 l = some a) : l = [a.1, a.2.1, a.2.2] := by
  obtain ⟨p, hp, h⟩ := Option.bind_eq_some_iff.mp h
  obtain ⟨b, hb, rfl⟩ := Option.map_eq_some_iff.mp h
  rw [argsC_eq hp, args2_eq hb]
noncomputable def args4 {α : Type} (l : List α) : Option (α × α × α × α) := (argsC l).bind fun p => (args3 p.2).map fun b => (p.1, b)
theorem args4_eq {α : Type} {l : List α} {a} (h : args4 l = some a) : l = [a.1, a.2.1, a.2.2.1, a.2.2.2] := by
  obtain ⟨p, hp, h⟩ := Option.bind_eq_some_iff.mp h
  obtain ⟨b, hb, rfl⟩ := Option.map_eq_some_iff.mp h
  rw [argsC_eq hp, args3_eq hb]
theorem bind_some {α β : Type} {x : Option α} {f : α → Option β} {b : β} (h : x.bind f = some b) : ∃ a, x = some a ∧ f a = some b := Option.bind_eq_some_iff.mp h

theorem CE_dead {e} : CE c d ns env e (fun _ => none) := ⟨fun _ _ h => nomatch h⟩
theorem CB_dead {e} : CB c d ns env e (fun _ => none) := ⟨fun _ _ h => nomatch h⟩
theorem C1_dead {e} : C1 c d ns env e (fun _ => none) := ⟨fun _ _ h => nomatch h⟩
theorem CS_dead {e} : CS c d ns env e (fun _ => none) := ⟨fun _ _ h => nomatch h⟩

theorem CE_int {i k pos} : CE c d ns env (.Constant (.int i) k pos) (fun _ => some (.int i)) := ⟨fun _ _ h => by cases h; exact EX_int⟩
theorem CE_str {i k pos} : CE c d ns env (.Constant (.str i) k pos) (fun _ => some (.str i)) := ⟨fun _ _ h => by cases h; exact EX_str⟩
theorem CE_bool {i k pos} : CE c d ns env (.Constant (.bool i) k pos) (fun _ => some (.bool i)) := ⟨fun _ _ h => by cases h; exact EX_bool⟩
theorem CE_name (K : EnvK ns nm env) {x : Str} {pos : Pos} {i : Nat} {k : NK} (h : findN ns x 0 = some (i, k)) : CE c d ns env (.Name x pos) (rd i) := ⟨fun _ _ hv => EX_name K.ok i (findN_get h) (rd_eq hv)⟩
theorem CT_name (K : EnvK ns nm env) {x : Str} {pos : Pos} {i : Nat} {k : NK} (h : findN ns x 0 = some (i, k)) : CT c d ns env (.Name x pos) (rdT i) := ⟨fun Γ v hv => by
  unfold rdT at hv
  split at hv
  · cases hv; exact (EX_name K.ok i (findN_get h) (by assumption)).t
  · cases hv; exact EXT_own K.ok i (findN_get h) (by assumption)
  · cases hv⟩
theorem CE.t {e F} (h : CE c d ns env e F) : CT c d ns env e F := ⟨fun Γ v hv => (h.run Γ v hv).t⟩

noncomputable def app2 (f : PV → PV → Option PV) (F G : SF PV) : SF PV := fun Γ => (F Γ).bind fun a => (G Γ).bind fun b => f a b
noncomputable def app2b (f : PV → PV → Option Bool) (F G : SF PV) : SF Bool := fun Γ => (F Γ).bind fun a => (G Γ).bind fun b => f a b

structure BOp (c : Ctx0) (op : Operator) (f : PV → PV → Option PV) : Prop where
  run : ∀ a b v, f a b = some v → BO c op a b v
structure COp (c : Ctx0) (op : CmpOp) (f : PV → PV → Option Bool) : Prop where
  run : ∀ a b v, f a b = some v → CO c op a b v

theorem CE_bin {l r op pos F G f} (h₁ : CE c d ns env l F) (h₂ : CE c d ns env r G) (b : BOp c op f) : CE c d ns env (.BinOp l op r pos) (app2 f F G) := ⟨fun Γ v h => by
  obtain ⟨a, ha, h⟩ := bind_some h
  obtain ⟨b', hb, h⟩ := bind_some h
  exact EX_bin (h₁.run Γ a ha) (h₂.run Γ b' hb) (b.run _ _ _ h)⟩
theorem CE_cmp {l r op pos F G f} (h₁ : CT c d ns env l F) (h₂ : CT c d ns env r G) (b : COp c op f) (hb : behindInMarks op r = false) : CE c d ns env (.Compare l [op] [r] pos) (fun Γ => (app2b f F G Γ).map .bool) := ⟨fun Γ v h => by
  obtain ⟨b₀, h0, e⟩ := Option.map_eq_some_iff.mp h
  subst e
  obtain ⟨a, ha, h1⟩ := bind_some h0
  obtain ⟨b', hb', h⟩ := bind_some h1
  exact EX_cmp (h₁.run Γ a ha) (h₂.run Γ b' hb') (b.run _ _ _ h) hb⟩
theorem CB_cmp {l r op pos F G f} (h₁ : CT c d ns env l F) (h₂ : CT c d ns env r G) (b : COp c op f) (hb : behindInMarks op r = false) : CB c d ns env (.Compare l [op] [r] pos) (app2b f F G) := ⟨fun Γ v h => by
  obtain ⟨a, ha, h⟩ := bind_some h
  obtain ⟨b', hb', h⟩ := bind_some h
  exact TX_cmp (h₁.run Γ a ha) (h₂.run Γ b' hb') (b.run _ _ _ h) hb⟩
theorem CB_not {e pos F} (h : CB c d ns env e F) : CB c d ns env (.UnaryOp .Not e pos) (fun Γ => (F Γ).map (!·)) := ⟨fun Γ v hv => by
  obtain ⟨b, hb, e⟩ := Option.map_eq_some_iff.mp hv
  subst e
  exact TX_not (h.run Γ b hb)⟩

noncomputable def orF (F G : SF Bool) : SF Bool := fun Γ => (F Γ).bind fun b => if b then some true else G Γ
noncomputable def andF (F G : SF Bool) : SF Bool := fun Γ => (F Γ).bind fun b => if b then G Γ else some false
theorem CB_or {x y pos F G} (h₁ : CB c d ns env x F) (h₂ : CB c d ns env y G) : CB c d ns env (.BoolOp .Or [x, y] pos) (orF F G) := ⟨fun Γ v h => by
  obtain ⟨b, hb, h⟩ := bind_some h
  cases b with
  | true => simp only [if_true, Option.some.injEq] at h; subst h; exact TX_or (h₁.run Γ _ hb) (b₂ := true) (fun e => nomatch e)
  | false => simp only [Bool.false_eq_true, if_false] at h; exact TX_or (h₁.run Γ _ hb) (b₂ := v) (fun _ => h₂.run Γ _ h)⟩
theorem CB_and {x y pos F G} (h₁ : CB c d ns env x F) (h₂ : CB c d ns env y G) : CB c d ns env (.BoolOp .And [x, y] pos) (andF F G) := ⟨fun Γ v h => by
  obtain ⟨b, hb, h⟩ := bind_some h
  cases b with
  | true => simp only [if_true] at h; exact TX_and (h₁.run Γ _ hb) (b₂ := v) (fun _ => h₂.run Γ _ h)
  | false => simp only [Bool.false_eq_true, if_false, Option.some.injEq] at h; subst h; exact TX_and (h₁.run Γ _ hb) (b₂ := false) (fun e => nomatch e)⟩

noncomputable def asB (F : SF PV) : SF Bool := fun Γ => (F Γ).bind fun v => match v with
  | .bool b => some b
  | _ => none
theorem asB_eq {F : SF PV} {Γ b} (h : asB F Γ = some b) : F Γ = some (.bool b) := by
  obtain ⟨a, ha, h⟩ := bind_some h
  split at h
  · cases h; exact ha
  · cases h
theorem CE_or {x y pos F G} (h₁ : CE c d ns env x F) (h₂ : CE c d ns env y G) : CE c d ns env (.BoolOp .Or [x, y] pos) (fun Γ => (orF (asB F) (asB G) Γ).map .bool) := ⟨fun Γ v h => by
  obtain ⟨b', h0, e⟩ := Option.map_eq_some_iff.mp h
  subst e
  obtain ⟨b, hb, h⟩ := bind_some h0
  cases b with
  | true => simp only [if_true, Option.some.injEq] at h; subst h; exact EX_or (h₁.run Γ _ (asB_eq hb)) (b₂ := true) (fun e => nomatch e)
  | false => simp only [Bool.false_eq_true, if_false] at h; exact EX_or (h₁.run Γ _ (asB_eq hb)) (b₂ := b') (fun _ => h₂.run Γ _ (asB_eq h))⟩
theorem CE_and {x y pos F G} (h₁ : CE c d ns env x F) (h₂ : CE c d ns env y G) : CE c d ns env (.BoolOp .And [x, y] pos) (fun Γ => (andF (asB F) (asB G) Γ).map .bool) := ⟨fun Γ v h => by
  obtain ⟨b', h0, e⟩ := Option.map_eq_some_iff.mp h
  subst e
  obtain ⟨b, hb, h⟩ := bind_some h0
  cases b with
  | true => simp only [if_true] at h; exact EX_and (h₁.run Γ _ (asB_eq hb)) (b₂ := b') (fun _ => h₂.run Γ _ (asB_eq h))
  | false => simp only [Bool.false_eq_true, if_false, Option.some.injEq] at h; subst h; exact EX_and (h₁.run Γ _ (asB_eq hb)) (b₂ := false) (fun e => nomatch e)⟩

noncomputable def iteF {α : Type} (T : SF Bool) (F G : SF α) : SF α := fun Γ => (T Γ).bind fun b => if b then F Γ else G Γ
theorem CE_if {t x y pos T F G} (h : CB c d ns env t T) (h₁ : CE c d ns env x F) (h₂ : CE c d ns env y G) : CE c d ns env (.IfExp t x y pos) (iteF T F G) := ⟨fun Γ v hv => by
  obtain ⟨b, hb, hv⟩ := bind_some hv
  cases b with
  | true => simp only [if_true] at hv; exact EX_if (h.run Γ _ hb) (fun _ => h₁.run Γ _ hv) (fun e => nomatch e)
  | false => simp only [Bool.false_eq_true, if_false] at hv; exact EX_if (h.run Γ _ hb) (fun e => nomatch e) (fun _ => h₂.run Γ _ hv)⟩

theorem CL_nil : CL c d ns env [] (fun _ => some []) := ⟨fun _ _ h => by cases h; exact EXL_nil⟩
noncomputable def consF (F : SF PV) (G : SF (List PV)) : SF (List PV) := fun Γ => (F Γ).bind fun a => (G Γ).bind fun r => some (a :: r)
theorem CL_cons {e es F G} (h : CE c d ns env e F) (hs : CL c d ns env es G) (he : ∀ env, starEach (e :: es) env = (false, eval e env) :: starEach es env) : CL c d ns env (e :: es) (consF F G) := ⟨fun Γ v hv => by
  obtain ⟨a, ha, hv⟩ := bind_some hv
  obtain ⟨r, hr, hv⟩ := bind_some hv
  cases hv
  exact EXL_cons (h.run Γ _ ha) (hs.run Γ _ hr) he⟩

noncomputable def truth : PV → Option Bool
  | .bool b => some b
  | .int i => some (i != 0)
  | .str x => if x.length < sizeLine then some ((x.length : Int) != 0) else none
  | .list xs => if xs.length < sizeLine then some (!xs.isEmpty) else none
  | _ => none
theorem TX_truth {Γ e v b} (h : EXT c d ns env Γ e v) (ht : truth v = some b) (he : ∀ env w, isTrue e env w = (do let v ← w; standAt e.pos; holding [v] (truthy v))) : TX c d ns env Γ e b := ⟨fun A n₀ G s E rm S => by
  rw [he]
  refine wb (h.run A n₀ G s E rm S) (fun V s' hpt => ?_)
  obtain ⟨G', hh, x⟩ := hpt
  have S₁ := S.step x
  have g := S₁.gs
  refine wbs (wpAny_holding ?_)
  cases v with
  | bool b' => cases ht; obtain rfl : V = .bool _ := hh; exact wpAny_truthy_bool ⟨G', rfl, x⟩
  | int i => cases ht; obtain ⟨t, rfl⟩ := hh; exact truthy_int ⟨G', rfl, x⟩
  | str y =>
    simp only [truth] at ht
    split at ht
    · rename_i hl
      cases ht; obtain ⟨t, rfl⟩ := hh
      exact P.truthy_str (by unfold sizeLine at hl; omega) ⟨G', rfl, x.then (Step.tok g _ _ (Nat.le_add_right _ 2))⟩
    · cases ht
  | list xs =>
    simp only [truth] at ht
    split at ht
    · rename_i hl
      cases ht; obtain ⟨a, vs, n, rfl, ga, hv⟩ := hh
      have hlen := hv.length
      refine wpAny_truthy_list (items := vs.toArray) ⟨_, Vis.sub ga, rfl, n, rfl⟩ (by simp only [List.size_toArray]; unfold sizeLine at hl; omega) ⟨G', ?_, x.then (Step.tok g _ _ (Nat.le_add_right _ 2))⟩
      cases xs <;> cases vs <;> simp_all
    · cases ht
  | none => cases ht
  | tuple _ => cases ht
  | dict _ => cases ht
  | raw _ => cases ht
  | obj => cases ht
  | iset _ => cases ht⟩
theorem CB_truth {e F} (h : CT c d ns env e F) (he : ∀ env w, isTrue e env w = (do let v ← w; standAt e.pos; holding [v] (truthy v))) : CB c d ns env e (fun Γ => (F Γ).bind truth) := ⟨fun Γ b hb => by
  obtain ⟨v, hv, hb⟩ := bind_some hb
  exact TX_truth (h.run Γ v hv) hb he⟩

theorem kind_glob (K : EnvK ns nm env) {x : Str} (h : nm.lookup x = some .globalImplicit) : env.kindOf x = some .globalImplicit := (K.kinds x).trans h
theorem CE_call (C : Cok c) (K : EnvK ns nm env) {x : Str} {np pos : Pos} {args : List PySem.Expr} {F : SF (List PV)} {f : List PV → Option PV} (hk : nm.lookup x = some .globalImplicit) (g : Gl c d x f) (h : CL c d ns env args F)
    (hd : (x == ("__debug__" : Str)) = false)
    (he : eval (.Call (.Name x np) args [] pos) env = (do callWith pos (← eval (.Name x np) env) [] (backTo pos (starEach args env)) (backToKw pos (keywordEach [] env))))
    (hp : ∀ pos env, (backTo pos (starEach args env)).any (·.1) = false) : CE c d ns env (.Call (.Name x np) args [] pos) (fun Γ => (F Γ).bind f) := ⟨fun Γ v hv => by
  obtain ⟨vs, hvs, hv⟩ := bind_some hv
  obtain ⟨V, gv, cal, ff⟩ := g.at_
  exact EX_call (EX_glob C K.ok (kind_glob K hk) gv hd) cal (h.run Γ _ hvs) (ff.run _ _ hv) he hp⟩
theorem CE_callT (C : Cok c) (K : EnvK ns nm env) {x : Str} {np pos : Pos} {arg : PySem.Expr} {F : SF PV} {f : List PV → Option PV} (hk : nm.lookup x = some .globalImplicit) (g : GlV c d x f) (h : CT c d ns env arg F)
    (hd : (x == ("__debug__" : Str)) = false)
    (he : eval (.Call (.Name x np) [arg] [] pos) env = (do callWith pos (← eval (.Name x np) env) [] (backTo pos (starEach [arg] env)) (backToKw pos (keywordEach [] env))))
    (hs : starEach [arg] env = (false, eval arg env) :: starEach [] env) : CE c d ns env (.Call (.Name x np) [arg] [] pos) (fun Γ => (F Γ).bind fun v => f [v]) := ⟨fun Γ v hv => by
  obtain ⟨a, ha, hv⟩ := bind_some hv
  obtain ⟨V, gv, cal, ff⟩ := g.at_
  exact EX_callT (EX_glob C K.ok (kind_glob K hk) gv hd) cal (h.run Γ _ ha) (ff.run _ _ hv) he hs⟩

structure SM (c : Ctx0) (name : Str) (f : List PV → Option PV) : Prop where
  at_ : ∃ id, PySem.Slot "str" name id ∧ typeOf (.builtin id) = pure (.type "method_descriptor") ∧ ∀ d, FF c d (.builtin id) f
noncomputable def strThen (F : SF PV) (G : SF (List PV)) (f : List PV → Option PV) : SF PV := fun Γ => (F Γ).bind fun o => match o with
  | .str x => (G Γ).bind fun vs => f (.str x :: vs)
  | _ => none
theorem CE_meth {o : PySem.Expr} {name : Str} {apos pos : Pos} {args : List PySem.Expr} {F G f} (m : SM c name f) (h₁ : CE c d ns env o F) (h₂ : CL c d ns env args G)
    (hbase : attributeBase o name env (eval o env) = eval o env) (hline : (apos.endLine == pos.line) = true)
    (hp : ∀ pos env, (backTo pos (starEach args env)).any (·.1) = false)
    (hfew : ∀ pos env, ((backTo pos (starEach args env)).all (fun x => !x.1) && (backToKw pos (keywordEach [] env)).all (fun x => x.1.isSome)
      && decide (args.length + ([] : List Keyword).length + (if ([] : List Keyword).isEmpty then 0 else 1) < 30)) = true) :
    CE c d ns env (.Call (.Attribute o name apos) args [] pos) (strThen F G f) := ⟨fun Γ v hv => by
  obtain ⟨a, ha, hv⟩ := bind_some hv
  obtain ⟨id, sl, ty, ff⟩ := m.at_
  split at hv
  · obtain ⟨vs, hvs, hv⟩ := bind_some hv
    exact EX_meth sl ty (h₁.run Γ _ ha) (h₂.run Γ _ hvs) ((ff d).run _ _ hv) hbase hline hp hfew
  · cases hv⟩


theorem CO_none : CO_ c d ns env none (fun _ => some none) := ⟨fun _ _ h => by cases h; exact EXO_none⟩
noncomputable def asI (F : SF PV) : SF (Option Int) := fun Γ => (F Γ).bind fun v => match v with
  | .int i => some (some i)
  | _ => none
theorem CO_some {e F} (h : CE c d ns env e F) : CO_ c d ns env (some e) (asI F) := ⟨fun Γ v hv => by
  obtain ⟨a, ha, hv⟩ := bind_some hv
  split at hv
  · cases hv; exact EXO_some (h.run Γ _ ha)
  · cases hv⟩
noncomputable def slicePV (xs : List PV) (l u : Option Int) : List PV :=
  (sliceRange (sliceBounds l u none xs.length).1 (sliceBounds l u none xs.length).2.1 (sliceBounds l u none xs.length).2.2).filterMap (xs[·]?)
theorem HoldsL.picked {G : PH w} {xs : List PV} {vs : List Value} (h : HoldsL G xs vs) : ∀ R : List Nat, HoldsL G (R.filterMap (xs[·]?)) (R.filterMap (vs.toArray[·]?))
  | [] => rfl
  | r :: R => by
    have ih := h.picked R
    simp only [List.filterMap_cons, List.getElem?_toArray]
    cases e : xs[r]? with
    | some v =>
      obtain ⟨V, hV, hv⟩ := h.get r e
      rw [hV]
      exact cons_of hv (by simpa using ih)
    | none =>
      have : vs[r]? = none := by
        rw [List.getElem?_eq_none_iff] at e ⊢
        rw [h.length]; exact e
      rw [this]
      simpa using ih
theorem HoldsL.slice {G : PH w} {xs : List PV} {vs : List Value} (h : HoldsL G xs vs) (l u : Option Int) : HoldsL G (slicePV xs l u) (slicePick vs.toArray l u none).toList := by
  unfold slicePick slicePV
  rw [List.size_toArray, h.length]
  simpa using h.picked _
noncomputable def sliceP (v : PV) (l u : Option Int) : Option PV := match v with
  | .str x => if x.length ≤ sizeLine then some (.str (Txt.slice x l u)) else none
  | .list xs => if xs.length ≤ sizeLine then some (.list (slicePV xs l u)) else none
  | _ => none
noncomputable def slc (F : SF PV) (L U : SF (Option Int)) : SF PV := fun Γ => (F Γ).bind fun v => (L Γ).bind fun l => (U Γ).bind fun u => sliceP v l u
theorem CE_slice {value : PySem.Expr} {lo hi : Option PySem.Expr} {p pos : Pos} {F L U} (h₁ : CE c d ns env value F) (h₂ : CO_ c d ns env lo L) (h₃ : CO_ c d ns env hi U) :
    CE c d ns env (.Subscript value (.Slice lo hi none p) pos) (slc F L U) := ⟨fun Γ v hv => by
  obtain ⟨a, ha, hv⟩ := bind_some hv
  obtain ⟨l, hl, hv⟩ := bind_some hv
  obtain ⟨u, hu, hv⟩ := bind_some hv
  unfold sliceP at hv
  split at hv
  · split at hv
    · rename_i hx; cases hv; exact EX_slice_str (h₁.run Γ _ ha) (h₂.run Γ _ hl) (h₃.run Γ _ hu) hx
    · cases hv
  · split at hv
    · rename_i hx; cases hv; exact EX_slice_list (h₁.run Γ _ ha) (h₂.run Γ _ hl) (h₃.run Γ _ hu) hx (fun _ _ h => h.slice l u)
    · cases hv
  · cases hv⟩
theorem CE_list {elts : List PySem.Expr} {pos : Pos} {F} (h : CL c d ns env elts F) : CE c d ns env (.List elts pos) (fun Γ => (F Γ).bind fun vs => if vs.length ≤ sizeLine then some (.list vs) else none) := ⟨fun Γ v hv => by
  obtain ⟨vs, hvs, hv⟩ := bind_some hv
  split at hv
  · rename_i hx; cases hv; exact EX_list (h.run Γ _ hvs) hx
  · cases hv⟩
theorem CE_tuple {elts : List PySem.Expr} {k : Nat} {pos : Pos} {F} (h : CL c d ns env elts F) : CE c d ns env (.Tuple elts k pos) (fun Γ => (F Γ).bind fun vs => if vs.length ≤ sizeLine then some (.tuple vs) else none) := ⟨fun Γ v hv => by
  obtain ⟨vs, hvs, hv⟩ := bind_some hv
  split at hv
  · rename_i hx; cases hv; exact EX_tuple (h.run Γ _ hvs) hx
  · cases hv⟩
end
end

section
structure Off (ns : List (Str × NK)) (env : Env) (A : Around) (W : List Addr) : Prop where
  t86 : 86 ∉ W
  fs : ∀ L ∈ FS A, L ∉ W
  cel : ∀ (i : Nat) x k a, ns[i]? = some (x, k) → k ≠ NK.loc → env.cells.lookup x = some a → a ∉ W
  loc : env.locals ∉ W

section
variable {c : Ctx0} {d : Nat} {ns : List (Str × NK)} {env : Env} {Γ : List Slot}

noncomputable def addW (n : Addr → Prop) (W : List Addr) : Addr → Prop := fun b => n b ∨ b ∈ W

theorem StV.off {A n₀ G s V} (S : StV c ns env Γ A n₀ G s V) {W : List Addr} (h : ∀ b ∈ W, ¬ Bel s b) : Off ns env A W where
  t86 := fun q => h _ q (let ⟨_, h1, _⟩ := S.gs.tab; ⟨_, h1⟩)
  fs := fun L hL q => h _ q (FS_lt S.gs hL)
  cel := fun i x k a hi hk ha q => by
    obtain ⟨a', h1, ⟨o, ho, _⟩, _⟩ := S.cel i x k hi hk
    rw [ha] at h1; cases h1
    exact h _ q ⟨o, ho⟩
  loc := fun q => by
    obtain ⟨m, hn, _⟩ := S.loc
    obtain ⟨o, ho, _⟩ := ns_obj0 hn
    exact h _ q ⟨o, ho⟩

theorem StV.touch {A n₀ G s V} (S : StV c ns env Γ A n₀ G s V) {W : List Addr} (O : Off ns env A W) (hG : ∀ b ∈ W, G b = none) (hn : ∀ b ∈ W, n₀ b) {h' : Heap} {tk : Nat} (htk : s.toks ≤ tk)
    (hk : ∀ b o, b ∉ W → s.heap.get? b = some o → h'.get? b = some o) (hl : ∀ b ∈ W, ∃ o, h'.get? b = some o) : StV c ns env Γ A n₀ G { s with heap := h', toks := tk } V := by
  have up : ∀ b o, G b = some o → h'.get? b = some o := fun b o e => hk b o (fun q => by rw [hG b q] at e; cases e) (S.gs.sub b o e)
  have offS : ∀ a, ¬ n₀ a → a ∉ W := fun a ha q => ha (hn a q)
  refine ⟨⟨S.gs.hb, up, fun L hL => ?_, S.gs.t86, ?_, Nat.le_trans S.gs.tk htk⟩, S.base, fun b hb => ?_, S.fsl, ?_, S.lL, ?_, ?_, S.apart⟩
  · obtain ⟨h1, o, e, hd⟩ := S.gs.fs L hL
    exact ⟨h1, o, hk _ _ (O.fs L hL) e, hd⟩
  · obtain ⟨ps, h1, h2⟩ := S.gs.tab
    exact ⟨ps, hk _ _ O.t86 h1, h2⟩
  · by_cases q : b ∈ W
    · exact hl b q
    · obtain ⟨o, e⟩ := S.bel b hb; exact ⟨o, hk b o q e⟩
  · obtain ⟨m, h, hm⟩ := S.loc
    exact ⟨m, h.at' fun o e => hk _ _ O.loc e, hm⟩
  · intro i x k hi hkk
    obtain ⟨a, h1, ⟨o, ho, hd⟩, h3⟩ := S.cel i x k hi hkk
    exact ⟨a, h1, ⟨o, hk _ _ (O.cel i x k a hi hkk h1) ho, hd⟩, h3⟩
  · intro i sl hi
    have z := S.slot i sl hi
    cases sl with
    | un => trivial
    | val v => exact z
    | own xs => obtain ⟨a, vs, n, e, g, hL, hf, hn', hg, hv⟩ := z; exact ⟨a, vs, n, e, g, hL, hf, hn', hk _ _ (offS a hn') hg, hv⟩
    | odict xs => obtain ⟨a, vs, n, e, g, hL, hf, hn', hg, hq, hv⟩ := z; exact ⟨a, vs, n, e, g, hL, hf, hn', hk _ _ (offS a hn') hg, hq, hv⟩
    | meth id j => exact z

theorem Step.touch {A} {n₁ : Addr → Prop} {G s} (g : GS c A G s) {W : List Addr} (h1 : ∀ b ∈ W, ¬ n₁ b) (h86 : 86 ∉ W) (hG : ∀ b ∈ W, G b = none) {h' : Heap} {tk : Nat} (htk : s.toks ≤ tk)
    (hk : ∀ b o, b ∉ W → s.heap.get? b = some o → h'.get? b = some o) : Step A n₁ G s G { s with heap := h', toks := tk } where
  sub := fun b o e => hk b o (fun q => by rw [hG b q] at e; cases e) (g.sub b o e)
  le := fun _ _ e => e
  new := fun _ h1 h2 => absurd h1 h2
  keep := fun b o hb e _ _ => hk b o (fun q => h1 b q hb) e
  fr := fun b o hb e _ => ⟨o.slots, hk b o (fun q => h1 b q hb) e⟩
  os := rfl
  gens := id
  tab := by obtain ⟨ps, h1, h2⟩ := g.tab; exact ⟨ps, hk _ _ h86 h1, h2⟩
  tk := htk

theorem StV.grow {A n₀ G s V} (S : StV c ns env Γ A n₀ G s V) {G₂ s₂} (x : Step A (Bel s) G s G₂ s₂) {W : List Addr} (hW : ∀ b ∈ W, ¬ Bel s b ∧ Bel s₂ b) : StV c ns env Γ A (addW n₀ W) G₂ s₂ V := by
  have T := S.step x
  have O := S.off fun b hb => (hW b hb).1
  refine ⟨T.gs, .inl T.base, fun b hb => hb.elim (T.bel b) fun q => (hW b q).2, fun L hL => (T.fsl L hL).elim (fun q => .inl (.inl q)) .inr, T.loc, ⟨T.lL.1, fun q => q.elim T.lL.2 O.loc⟩, ?_, ?_, T.apart⟩
  · intro i y k hi hk
    obtain ⟨a, h1, h2, h3⟩ := T.cel i y k hi hk
    exact ⟨a, h1, h2, fun q => ⟨(h3 q).1, fun z => z.elim (h3 q).2 (O.cel i y k a hi hk h1)⟩⟩
  · intro i sl hi
    have z := T.slot i sl hi
    have z₀ := S.slot i sl hi
    cases sl with
    | un => trivial
    | val v => exact z
    | own xs =>
      obtain ⟨a, vs, n, e, g, hL, hf, hn', hg, hv⟩ := z
      obtain ⟨a₀, vs₀, n₀', e₀, _, _, _, _, hg₀, _⟩ := z₀
      rw [e] at e₀; cases e₀
      exact ⟨a, vs, n, e, g, hL, hf, fun q => q.elim hn' fun q => (hW a q).1 ⟨_, hg₀⟩, hg, hv⟩
    | odict xs =>
      obtain ⟨a, vs, n, e, g, hL, hf, hn', hg, hq, hv⟩ := z
      obtain ⟨a₀, vs₀, n₀', e₀, _, _, _, _, hg₀, _⟩ := z₀
      rw [e] at e₀; cases e₀
      exact ⟨a, vs, n, e, g, hL, hf, fun q => q.elim hn' fun q => (hW a q).1 ⟨_, hg₀⟩, hg, hq, hv⟩
    | meth id j => exact z
theorem StV.shrink {A n₀ G s V} {W : List Addr} (S : StV c ns env Γ A (addW n₀ W) G s V) (hb : n₀ 86) (hf : ∀ L ∈ FS A, n₀ L ∨ L = env.locals) : StV c ns env Γ A n₀ G s V := by
  refine ⟨S.gs, hb, fun b h => S.bel b (.inl h), hf, S.loc, ⟨S.lL.1, fun q => S.lL.2 (.inl q)⟩, ?_, ?_, S.apart⟩
  · intro i y k hi hk
    obtain ⟨a, h1, h2, h3⟩ := S.cel i y k hi hk
    exact ⟨a, h1, h2, fun q => ⟨(h3 q).1, fun z => (h3 q).2 (.inl z)⟩⟩
  · intro i sl hi
    have z := S.slot i sl hi
    cases sl with
    | un => trivial
    | val v => exact z
    | own xs => obtain ⟨a, vs, n, e, g, hL, hf, hn', hg, hv⟩ := z; exact ⟨a, vs, n, e, g, hL, hf, fun q => hn' (.inl q), hg, hv⟩
    | odict xs => obtain ⟨a, vs, n, e, g, hL, hf, hn', hg, hq, hv⟩ := z; exact ⟨a, vs, n, e, g, hL, hf, fun q => hn' (.inl q), hg, hq, hv⟩
    | meth id j => exact z

structure Src1 (c : Ctx0) (A : Around) (G : PH c.w) (I : Addr) (W : List Addr) (xs : List PV) (D : Nat → Heap → Prop) : Prop where
  walks : ∃ fp wr P, Walks Pw c.w A I fp wr xs.length P D ∧ (∀ (i : Nat) v x, P i v → xs[i]? = some x → Holds G x v) ∧ (∀ b ∈ wr, b ∈ W) ∧ ∀ b ∈ fp, b ∈ W ∨ ∃ o, G b = some o
  live : ∀ i h, D i h → ∀ b ∈ W, ∃ o, h.get? b = some o
structure Src2 (c : Ctx0) (A : Around) (G : PH c.w) (I : Addr) (W : List Addr) (xs : List PV) (D : Nat → Heap → Prop) : Prop where
  walks : ∃ fp wr P Mid, WalksU Pw c.w A I fp wr xs.length P D Mid ∧ (∀ (i : Nat) vals x, P i vals → xs[i]? = some x → ∃ a b p q, vals = #[a, b] ∧ x = .tuple [p, q] ∧ Holds G p a ∧ Holds G q b) ∧
    (∀ b ∈ wr, b ∈ W) ∧ ∀ b ∈ fp, b ∈ W ∨ ∃ o, G b = some o
  live : ∀ i h, D i h → ∀ b ∈ W, ∃ o, h.get? b = some o

structure Tk (c : Ctx0) (ns : List (Str × NK)) (env : Env) (A : Around) (tgt : PySem.Expr) (I : Addr) (W : List Addr) (n₁ : Addr → Prop) (G₀ : PH c.w) (bd : PV → List Slot → List Slot) (xs : List PV) (D : Nat → Heap → Prop) : Prop where
  live : ∀ i h, D i h → ∀ b ∈ W, ∃ o, h.get? b = some o
  frame : ∀ i h h', D i h → (∀ b ∈ W, ∀ o, h.get? b = some o → h'.get? b = some o) → (∀ b o, G₀ b = some o → h.get? b = some o ∧ h'.get? b = some o) → D i h'
  item : ∀ (i : Nat) x Γ G s (Q : Shared → Prop) (E : Value → Shared → Prop), xs[i]? = some x → D i s.heap → St c ns env Γ A (addW n₁ W) G s → (∀ b o, G₀ b = some o → G b = some o) → (∀ b ∈ W, G b = none) →
    (∀ s', D (i + 1) s'.heap → St c ns env (bd x Γ) A (addW n₁ W) G s' → Step A n₁ G s G s' → Q s') →
    wpAny c.M A (pyNext (.ref I)) (fun r s₁ => ∃ v, r = some v ∧ wpAny c.M A (letOwnedTupleGo tgt (.ref I) v) (fun _ s₂ => wpAny c.M A (assign tgt env v) (fun _ s₃ => Q s₃) E s₂) E s₁) E s
  done : ∀ Γ G s (Q : Shared → Prop) (E : Value → Shared → Prop), D xs.length s.heap → St c ns env Γ A (addW n₁ W) G s → (∀ b ∈ W, G b = none) →
    (∀ s', St c ns env Γ A n₁ G s' → Step A n₁ G s G s' → Q s') → wpAny c.M A (pyNext (.ref I)) (fun r s₁ => r = none ∧ Q s₁) E s
  self : ∀ i (s : Shared) (Q : Value → Shared → Prop) (E : Value → Shared → Prop), D i s.heap → Q (.ref I) s → wpAny c.M A (pyIter (.ref I)) Q E s

noncomputable def bd1 (j : Nat) : PV → List Slot → List Slot := fun x Γ => (clr j Γ).set j (.val x)
noncomputable def bd2 (j k : Nat) : PV → List Slot → List Slot := fun x Γ => match x with
  | .tuple [p, q] => bd1 k q (bd1 j p Γ)
  | _ => Γ

theorem StV.end_ {A n₀ G s V} (S : StV c ns env Γ A (addW n₀ W) G s V) (O : Off ns env A W) (hG : ∀ b ∈ W, G b = none) (hb : n₀ 86) (hf : ∀ L ∈ FS A, n₀ L ∨ L = env.locals) (hnW : ∀ b ∈ W, ¬ n₀ b) {h' : Heap} {tk : Nat} (htk : s.toks ≤ tk)
    (hk : ∀ b o, b ∉ W → s.heap.get? b = some o → h'.get? b = some o) : StV c ns env Γ A n₀ G { s with heap := h', toks := tk } V := by
  have T := S.shrink hb hf
  have up : ∀ b o, G b = some o → h'.get? b = some o := fun b o e => hk b o (fun q => by rw [hG b q] at e; cases e) (T.gs.sub b o e)
  have offS : ∀ a, ¬ addW n₀ W a → a ∉ W := fun a ha q => ha (.inr q)
  refine ⟨⟨T.gs.hb, up, fun L hL => ?_, T.gs.t86, ?_, Nat.le_trans T.gs.tk htk⟩, T.base, fun b hb => ?_, T.fsl, ?_, T.lL, ?_, ?_, T.apart⟩
  · obtain ⟨h1, o, e, hd⟩ := T.gs.fs L hL
    exact ⟨h1, o, hk _ _ (O.fs L hL) e, hd⟩
  · obtain ⟨ps, h1, h2⟩ := T.gs.tab
    exact ⟨ps, hk _ _ O.t86 h1, h2⟩
  · obtain ⟨o, e⟩ := T.bel b hb; exact ⟨o, hk b o (fun q => hnW b q hb) e⟩
  · obtain ⟨m, h, hm⟩ := T.loc
    exact ⟨m, h.at' fun o e => hk _ _ O.loc e, hm⟩
  · intro i x k hi hkk
    obtain ⟨a, h1, ⟨o, ho, hd⟩, h3⟩ := T.cel i x k hi hkk
    exact ⟨a, h1, ⟨o, hk _ _ (O.cel i x k a hi hkk h1) ho, hd⟩, h3⟩
  · intro i sl hi
    have z := S.slot i sl hi
    cases sl with
    | un => trivial
    | val v => exact z
    | own xs => obtain ⟨a, vs, n, e, g, hL, hf, hn', hg, hv⟩ := z; exact ⟨a, vs, n, e, g, hL, hf, fun q => hn' (.inl q), hk _ _ (offS a hn') hg, hv⟩
    | odict xs => obtain ⟨a, vs, n, e, g, hL, hf, hn', hg, hq, hv⟩ := z; exact ⟨a, vs, n, e, g, hL, hf, fun q => hn' (.inl q), hk _ _ (offS a hn') hg, hq, hv⟩
    | meth id j => exact z

theorem Src1.tk {A : Around} {G₀ : PH c.w} {I : Addr} {W : List Addr} {xs : List PV} {D} (S : Src1 c A G₀ I W xs D) (ok : EnvOK ns env) {j : Nat} {x : Str} {k : NK} {pos : Pos} (hj : ns[j]? = some (x, k)) (hk : k ≠ .cap) {n₁ : Addr → Prop}
    (O : Off ns env A W) (hb : n₁ 86) (hf : ∀ L ∈ FS A, n₁ L ∨ L = env.locals) (hW : ∀ b ∈ W, ¬ n₁ b) : Tk c ns env A (.Name x pos) I W n₁ G₀ (bd1 j) xs D := by
  obtain ⟨fp, wr, P, Wk, hP, hwr, hfp⟩ := S.walks
  refine ⟨S.live, ?_, ?_, ?_, Wk.self⟩
  · intro i h h' hD hk1 hk2
    refine Wk.frame i h h' hD fun b hb o e => ?_
    rcases hfp b hb with q | ⟨o', q⟩
    · exact hk1 b q o e
    · obtain ⟨e1, e2⟩ := hk2 b o' q
      rw [e] at e1; cases e1; exact e2
  · intro i v Γ G s Q E hi hD hS hle hG hQ
    have hlt : i < xs.length := (List.getElem?_eq_some_iff.mp hi).1
    refine wpAny_mono (wpAny_toks (Wk.item i s (fun r s₁ => ∃ u, r = some u ∧ Holds G v u ∧ D (i + 1) s₁.heap ∧ ∃ h' tk, s₁ = { s with heap := h', toks := tk } ∧ ∀ b o, b ∉ W → s.heap.get? b = some o → h'.get? b = some o) E hlt hD
      fun u h' tk hp hD' hk' => ⟨u, rfl, (hP i u v hp hi).mono hle, hD', h', tk, rfl, fun b o hbW e => hk' b o (fun q => hbW (hwr b q)) e⟩)) (fun r s₁ ⟨htk, u, e, hu, hD', h', tk, e₁, hk'⟩ => ?_) fun _ _ e => e.2
    subst e₁
    refine ⟨u, e, wpAny_pure ?_⟩
    obtain ⟨V, SV⟩ := hS
    have S₁ := SV.touch O hG (fun b hb => .inr hb) htk hk' (S.live _ _ hD')
    have st₁ := Step.touch SV.gs (n₁ := n₁) hW O.t86 hG htk hk'
    refine wpAny_assign_Name (wm (store_val ok hj hk ⟨V, S₁⟩ hu) (fun _ s₂ ⟨x₂, S₂⟩ => ?_))
    refine hQ s₂ ?_ S₂ (st₁.trans (x₂.up fun b hb => .inl hb))
    refine Wk.frame _ _ _ hD' fun b hb o e => ?_
    rcases hfp b hb with q | ⟨o', q⟩
    · exact x₂.keep b o (.inr q) e (fun z => O.t86 (z ▸ q)) (fun z => O.fs b z q)
    · have e1 := S₁.gs.sub b o' (hle b o' q)
      rw [show _ = _ from e] at e1
      cases e1
      exact x₂.sub b o (x₂.le b o (hle b o q))
  · intro Γ G s Q E hD hS hG hQ
    obtain ⟨V, SV⟩ := hS
    refine wpAny_mono (wpAny_toks (Wk.done s (fun r s₁ => r = none ∧ ∃ h' tk, s₁ = { s with heap := h', toks := tk } ∧ ∀ b o, b ∉ W → s.heap.get? b = some o → h'.get? b = some o) E hD
      fun h' tk hk' => ⟨rfl, h', tk, rfl, fun b o hbW e => hk' b o (fun q => hbW (hwr b q)) e⟩)) (fun r s₁ ⟨htk, e, h', tk, e₁, hk'⟩ => ?_) fun _ _ e => e.2
    subst e₁
    exact ⟨e, hQ _ ⟨V, SV.end_ O hG hb hf hW htk hk'⟩ (Step.touch SV.gs (n₁ := n₁) hW O.t86 hG htk hk')⟩
end
end

section
section
variable {c : Ctx0} {d : Nat} {ns : List (Str × NK)} {env : Env} {Γ : List Slot}

theorem StV.fresh {A n₀ G s V} (S : StV c ns env Γ A n₀ G s V) {h' : Heap} {tk : Nat} (htk : s.toks ≤ tk) (hk : ∀ b o, s.heap.get? b = some o → h'.get? b = some o) :
    StV c ns env Γ A n₀ G { s with heap := h', toks := tk } V :=
  S.touch (W := []) ⟨by simp, by simp, by simp, by simp⟩ (by simp) (by simp) htk (fun b o _ e => hk b o e) (by simp)
theorem Step.fresh {A} {n₁ : Addr → Prop} {G s} (g : GS c A G s) {h' : Heap} {tk : Nat} (htk : s.toks ≤ tk) (hk : ∀ b o, s.heap.get? b = some o → h'.get? b = some o) : Step A n₁ G s G { s with heap := h', toks := tk } :=
  Step.touch g (W := []) (by simp) (by simp) (by simp) htk fun b o _ e => hk b o e

theorem Src2.tk {A : Around} {G₀ : PH c.w} {I : Addr} {W : List Addr} {xs : List PV} {D} (S : Src2 c A G₀ I W xs D) (ok : EnvOK ns env) {j l : Nat} {x y : Str} {k k' : NK} {p1 p2 pos : Pos} {kk : Nat}
    (hj : ns[j]? = some (x, k)) (hk : k ≠ .cap) (hl : ns[l]? = some (y, k')) (hk' : k' ≠ .cap) {n₁ : Addr → Prop} (hh : A.handled = none)
    (hself : ∀ i (s : Shared) (Q : Value → Shared → Prop) (E : Value → Shared → Prop), D i s.heap → Q (.ref I) s → wpAny c.M A (pyIter (.ref I)) Q E s)
    (O : Off ns env A W) (hb : n₁ 86) (hf : ∀ L ∈ FS A, n₁ L ∨ L = env.locals) (hW : ∀ b ∈ W, ¬ n₁ b) : Tk c ns env A (.Tuple [.Name x p1, .Name y p2] kk pos) I W n₁ G₀ (bd2 j l) xs D := by
  obtain ⟨fp, wr, P, Mid, Wk, hP, hwr, hfp⟩ := S.walks
  have hfr : ∀ i h h', D i h → (∀ b ∈ W, ∀ o, h.get? b = some o → h'.get? b = some o) → (∀ b o, G₀ b = some o → h.get? b = some o ∧ h'.get? b = some o) → D i h' := by
    intro i h h' hD hk1 hk2
    refine Wk.frame i h h' hD fun b hb o e => ?_
    rcases hfp b hb with q | ⟨o', q⟩
    · exact hk1 b q o e
    · obtain ⟨e1, e2⟩ := hk2 b o' q
      rw [e] at e1; cases e1; exact e2
  refine ⟨S.live, hfr, ?_, ?_, hself⟩
  · intro i v Γ G s Q E hi hD hS hle hG hQ
    have hlt : i < xs.length := (List.getElem?_eq_some_iff.mp hi).1
    refine wpAny_mono (wpAny_toks (Wk.item i s (fun r s₁ => ∃ T vals, r = some (.ref T) ∧ P i vals ∧ s₁.heap.IsTuple T vals ∧ Mid i T s₁.heap ∧ ∃ h' tk, s₁ = { s with heap := h', toks := tk } ∧ ∀ b o, b ∉ wr → s.heap.get? b = some o → h'.get? b = some o) E hlt hD
      fun T vals h' tk hp hT hM hk' => ⟨T, vals, rfl, hp, hT, hM, h', tk, rfl, hk'⟩)) (fun r s₁ ⟨htk, T, vals, e, hp, hT, hM, h₁, tk, e₁, hk1⟩ => ?_) fun _ _ e => e.2
    subst e₁
    obtain ⟨a, b, p, q, rfl, rfl, ha, hb'⟩ := hP i vals v hp hi
    refine ⟨.ref T, e, Wk.go _ _ _ i T _ _ _ hM fun h₂ hD₂ hk2 => ?_⟩
    have hT₂ : h₂.IsTuple T #[a, b] := let ⟨o, ho, r⟩ := hT; ⟨o, hk2 T o (Wk.apart _ _ _ hM) ho, r⟩
    obtain ⟨V, SV⟩ := hS
    have hk12 : ∀ b o, b ∉ W → s.heap.get? b = some o → h₂.get? b = some o := fun b o hbW e => hk2 b o (fun q => hbW (hwr b q)) (hk1 b o (fun q => hbW (hwr b q)) e)
    have S₁ := SV.touch O hG (fun b hb => .inr hb) htk hk12 (S.live _ _ hD₂)
    have st₁ := Step.touch SV.gs (n₁ := n₁) hW O.t86 hG htk hk12
    refine wpAny_assign_Tuple hh hT₂ rfl rfl fun h₃ he₃ => ?_
    have up₃ : ∀ b o, h₂.get? b = some o → h₃.get? b = some o := fun b o e => he₃ b o (Nat.ne_of_lt (Heap.lt_size e)) e
    have S₂ := S₁.fresh (tk := tk) (Nat.le_refl _) up₃
    have st₂ := Step.fresh S₁.gs (n₁ := addW n₁ W) (tk := tk) (Nat.le_refl _) up₃
    show wpAny _ _ (assignInOrder [assign (.Name x p1) env, assign (.Name y p2) env] [a, b]) _ _ _
    refine assignInOrder_cons (wpAny_assign_Name (wm (store_val ok hj hk ⟨V, S₂⟩ (ha.mono hle)) (fun _ s₄ ⟨x₄, S₄⟩ => ?_)))
    refine assignInOrder_cons (wpAny_assign_Name (wm (store_val ok hl hk' S₄ (hb'.mono hle)) (fun _ s₅ ⟨x₅, S₅⟩ => ?_)))
    have all := (st₂.trans x₄).trans x₅
    refine assignInOrder_nil (hQ s₅ ?_ S₅ (st₁.trans (all.up fun b hb => .inl hb)))
    refine hfr _ _ _ hD₂ (fun b hb o e => all.keep b o (.inr hb) e (fun z => O.t86 (z ▸ hb)) (fun z => O.fs b z hb)) fun b o e => ⟨S₁.gs.sub b o (hle b o e), all.sub b o (all.le b o (hle b o e))⟩
  · intro Γ G s Q E hD hS hG hQ
    obtain ⟨V, SV⟩ := hS
    refine wpAny_mono (wpAny_toks (Wk.done s (fun r s₁ => r = none ∧ ∃ h' tk, s₁ = { s with heap := h', toks := tk } ∧ ∀ b o, b ∉ W → s.heap.get? b = some o → h'.get? b = some o) E hD
      fun h' tk hk' => ⟨rfl, h', tk, rfl, fun b o hbW e => hk' b o (fun q => hbW (hwr b q)) e⟩)) (fun r s₁ ⟨htk, e, h', tk, e₁, hk'⟩ => ?_) fun _ _ e => e.2
    subst e₁
    exact ⟨e, hQ _ ⟨V, SV.end_ O hG hb hf hW htk hk'⟩ (Step.touch SV.gs (n₁ := n₁) hW O.t86 hG htk hk')⟩

noncomputable abbrev XI (Src : (c : Ctx0) → Around → PH c.w → Addr → List Addr → List PV → (Nat → Heap → Prop) → Prop) (c : Ctx0) (A : Around) (G : PH c.w) (s : Shared) (xs : List PV) : Value → Shared → Prop := fun it s₂ =>
  ∃ G₂ I W D, it = .ref I ∧ Src c A G₂ I W xs D ∧ D 0 s₂.heap ∧ (∀ b ∈ W, ¬ Bel s b ∧ G₂ b = none) ∧
    (∀ i (s : Shared) (Q : Value → Shared → Prop) (E : Value → Shared → Prop), D i s.heap → Q (.ref I) s → wpAny c.M A (pyIter (.ref I)) Q E s) ∧ Step A (Bel s) G s G₂ s₂

structure IX1 (c : Ctx0) (d : Nat) (ns : List (Str × NK)) (env : Env) (Γ : List Slot) (e : PySem.Expr) (xs : List PV) : Prop where
  run : ∀ (A : Around) (n₀ : Addr → Prop) (G : PH c.w) (s : Shared) (E : Value → Shared → Prop), Rm d A → St c ns env Γ A n₀ G s → wpAny c.M A (eval e env) (fun V s₁ => wpAny c.M A (pyIter V) (XI Src1 c A G s xs) E s₁) E s
structure IX2 (c : Ctx0) (d : Nat) (ns : List (Str × NK)) (env : Env) (Γ : List Slot) (e : PySem.Expr) (xs : List PV) : Prop where
  run : ∀ (A : Around) (n₀ : Addr → Prop) (G : PH c.w) (s : Shared) (E : Value → Shared → Prop), Rm d A → St c ns env Γ A n₀ G s → wpAny c.M A (eval e env) (fun V s₁ => wpAny c.M A (pyIter V) (XI Src2 c A G s xs) E s₁) E s

noncomputable def forP (bd : PV → List Slot → List Slot) (B : SF Out) : List PV → SF Out
  | [], Γ => some (.next Γ)
  | x :: xs, Γ => (B (bd x Γ)).bind fun o => match o with
    | .next Γ' => forP bd B xs Γ'
    | .brk Γ' => some (.next Γ')
    | .ret v => some (.ret v)

theorem turn_lt {n i : Nat} (h : i < n) : n - (i + 1) + 1 < n - i + 1 := Nat.succ_lt_succ (Nat.sub_lt_sub_left h (Nat.lt_succ_self i))
inductive FInv {c : Ctx0} (ns : List (Str × NK)) (env : Env) (A : Around) (n₁ : Addr → Prop) (W : List Addr) (G₀ : PH c.w) (s : Shared) (D : Nat → Heap → Prop) (xs : List PV) (P : List PV → SF Out) (o : Out) (k : Nat) (s' : Shared) : Prop where
  | mk (i : Nat) (Γ' : List Slot) (G : PH c.w) (hk : k = xs.length - i + 1) (hi : i ≤ xs.length) (hD : D i s'.heap) (hS : St c ns env Γ' A (addW n₁ W) G s') (hG : ∀ b ∈ W, G b = none) (st : Step A n₁ G₀ s G s') (hF : P (xs.drop i) Γ' = some o) : FInv ns env A n₁ W G₀ s D xs P o k s'
theorem for_gen {env : Env} {tgt : PySem.Expr} {body : List Stmt} {bd : PV → List Slot → List Slot} {B : SF Out} (hB : CS c d ns env body B) {A : Around} {n₁ : Addr → Prop} {G₀ : PH c.w} {I : Addr} {W : List Addr} {xs : List PV} {D}
    (rm : Rm d A) (T : Tk c ns env A tgt I W n₁ G₀ bd xs D) (O : Off ns env A W) (hb : n₁ 86) (hf : ∀ L ∈ FS A, n₁ L ∨ L = env.locals) (hnW : ∀ b ∈ W, ¬ n₁ b) {Γ : List Slot} {o : Out} (ho : forP bd B xs Γ = some o) {s : Shared} (hD : D 0 s.heap)
    (hS : St c ns env Γ A (addW n₁ W) G₀ s) (hG : ∀ b ∈ W, G₀ b = none) {R : Result → Shared → Prop} (hR : ∀ f s', SP c ns env A n₁ G₀ s o f s' → R (.ok f) s') :
    codeAny c.M A (.forLoop tgt (.ref I) body [] env) R s := by
  refine codeAny_forLoop_any (FInv (c := c) ns env A n₁ W G₀ s D xs (forP bd B) o) ?_ (xs.length + 1) (.mk 0 Γ G₀ (by rw [Nat.sub_zero]) (Nat.zero_le _) hD hS hG (Step.refl hS.gs) (by rw [List.drop_zero]; exact ho))
  rintro k s' ⟨i, Γ', G, rfl, hi, hD', hS', hG', st, hF⟩
  have hle : ∀ b o, G₀ b = some o → G b = some o := st.le
  cases hx : xs[i]? with
  | none =>
    have hin : i = xs.length := Nat.le_antisymm hi (by simpa using hx)
    subst hin
    rw [List.drop_length] at hF
    cases hF
    refine wm (T.done Γ' G s' (fun s₁ => ∃ G', St c ns env Γ' A n₁ G' s₁ ∧ Step A n₁ G₀ s G' s₁) _ hD' hS' hG' fun s₁ S₁ st₁ => ⟨G, S₁, st.trans st₁⟩) (fun r s₁ hpt => ?_)
    obtain ⟨e, G', S₁, st₁⟩ := hpt
    subst e
    exact wpAny_execs_nil (hR _ _ ⟨G', ⟨rfl, S₁⟩, st₁⟩)
  | some x =>
    have hlt : i < xs.length := (List.getElem?_eq_some_iff.mp hx).1
    rw [List.drop_eq_getElem_cons hlt, (List.getElem?_eq_some_iff.mp hx).2] at hF
    obtain ⟨out, hout, hrest⟩ := bind_some hF
    refine wm (T.item i x Γ' G s' (fun s₃ => D (i + 1) s₃.heap ∧ St c ns env (bd x Γ') A (addW n₁ W) G s₃ ∧ Step A n₁ G s' G s₃) _ hx hD' hS' hle hG' fun s₃ a b c => ⟨a, b, c⟩) (fun r s₁ hpt => ?_)
    obtain ⟨v, e, hv⟩ := hpt
    subst e
    refine wm hv (fun _ s₂ hv₂ => wm hv₂ (fun _ s₃ hpt => ?_))
    obtain ⟨hD₃, S₃, st₃⟩ := hpt
    refine wm ((hB.run _ _ hout).run A (addW n₁ W) G s₃ _ rm S₃) (fun fl s₄ hpt => ?_)
    obtain ⟨G₄, ho₄, x₄⟩ := hpt
    have st₄ : Step A n₁ G₀ s G₄ s₄ := (st.trans st₃).trans (x₄.up fun b hb => .inl hb)
    have hG₄ : ∀ b ∈ W, G₄ b = none := fun b hb => by
      cases e : G₄ b with
      | none => rfl
      | some o' => exact absurd (.inr hb) (x₄.new b (hG' b hb) (by rw [e]; simp))
    cases out with
    | next Γ'' =>
      obtain ⟨e, S₄⟩ := ho₄
      subst e
      refine ⟨xs.length - (i + 1) + 1, turn_lt hlt, .mk (i + 1) Γ'' G₄ rfl hlt ?_ S₄ hG₄ st₄ hrest⟩
      refine T.frame _ _ _ hD₃ (fun b hb o e => x₄.keep b o (.inr hb) e (fun z => O.t86 (z ▸ hb)) (fun z => O.fs b z hb)) fun b o e => ⟨S₃.gs.sub b o (hle b o e), x₄.sub b o (x₄.le b o (hle b o e))⟩
    | brk Γ'' =>
      obtain ⟨e, V, S₄⟩ := ho₄
      subst e
      cases hrest
      exact hR _ _ ⟨G₄, ⟨rfl, V, S₄.shrink hb hf⟩, st₄⟩
    | ret v' =>
      obtain ⟨V, e, hvv⟩ := ho₄
      subst e
      cases hrest
      exact hR _ _ ⟨G₄, ⟨V, rfl, hvv⟩, st₄⟩

theorem for_core {env : Env} {tgt : PySem.Expr} {body : List Stmt} {bd : PV → List Slot → List Slot} {B : SF Out} (hB : CS c d ns env body B) {A : Around} {n₁ : Addr → Prop} {G₀ : PH c.w} {I : Addr} {W : List Addr} {xs : List PV} {D}
    (rm : Rm d A) (T : Tk c ns env A tgt I W n₁ G₀ bd xs D) (O : Off ns env A W) (hb : n₁ 86) (hf : ∀ L ∈ FS A, n₁ L ∨ L = env.locals) (hnW : ∀ b ∈ W, ¬ n₁ b) {Γ : List Slot} {o : Out} (ho : forP bd B xs Γ = some o) {s : Shared} (hD : D 0 s.heap)
    (hS : St c ns env Γ A (addW n₁ W) G₀ s) (hG : ∀ b ∈ W, G₀ b = none) {E : Value → Shared → Prop} :
    codeAny c.M A (.forLoop tgt (.ref I) body [] env) (fun r s' => match r with | .ok f => SP c ns env A n₁ G₀ s o f s' | .error e => E e s') s :=
  for_gen hB rm T O hb hf hnW ho hD hS hG fun _ _ h => h

structure CI1 (c : Ctx0) (d : Nat) (ns : List (Str × NK)) (env : Env) (e : PySem.Expr) (F : SF (List PV)) : Prop where
  run : ∀ Γ v, F Γ = some v → IX1 c d ns env Γ e v
structure CI2 (c : Ctx0) (d : Nat) (ns : List (Str × NK)) (env : Env) (e : PySem.Expr) (F : SF (List PV)) : Prop where
  run : ∀ Γ v, F Γ = some v → IX2 c d ns env Γ e v

noncomputable def forF (bd : PV → List Slot → List Slot) (L : SF (List PV)) (B : SF Out) : SF Out := fun Γ => (L Γ).bind fun xs => forP bd B xs Γ

theorem C1_for1 (ok : EnvOK ns env) {x : Str} {np pos : Pos} {iter : PySem.Expr} {body : List Stmt} {j : Nat} {k : NK} {L : SF (List PV)} {B : SF Out} (hj : findN ns x 0 = some (j, k)) (hk : k ≠ .cap)
    (hL : CI1 c d ns env iter L) (hB : CS c d ns env body B) (hs : ∀ x, foldedSetIterable iter env x = pure x) : C1 c d ns env (.For (.Name x np) iter body [] pos) (forF (bd1 j) L B) := ⟨fun Γ o hv => ⟨fun A n₀ G s E rm S => by
  obtain ⟨xs, hxs, hv⟩ := bind_some hv
  refine wpAny_For (wm ((hL.run Γ xs hxs).run A n₀ G s E rm S) (fun V s₁ h₁ => wm h₁ (fun it s₂ hpt => ?_))) hs
  obtain ⟨G₂, I, W, D, e, Sr, hD, hW, _, x₂⟩ := hpt
  subst e
  obtain ⟨V, SV⟩ := S
  have O := SV.off fun b hb => (hW b hb).1
  have hnW : ∀ b ∈ W, ¬ n₀ b := fun b hb q => (hW b hb).1 (SV.bel b q)
  have T := Sr.tk ok (pos := np) (findN_get hj) hk O SV.base SV.fsl hnW
  have S₂ := SV.grow x₂ fun b hb => ⟨(hW b hb).1, Sr.live _ _ hD b hb⟩
  refine codeAny_mono (for_core hB rm T O SV.base SV.fsl hnW hv hD ⟨V, S₂⟩ (fun b hb => (hW b hb).2) (E := fun _ _ => False)) (fun r s' h => ?_)
  cases r with
  | ok f => obtain ⟨G', o', st⟩ := h; exact ⟨G', o', (x₂.up fun b hb => SV.bel b hb).trans st⟩
  | error e => exact h.elim⟩⟩
theorem C1_for2 (ok : EnvOK ns env) {x y : Str} {p1 p2 tp pos : Pos} {kk : Nat} {iter : PySem.Expr} {body : List Stmt} {j l : Nat} {k k' : NK} {L : SF (List PV)} {B : SF Out} (hj : findN ns x 0 = some (j, k)) (hk : k ≠ .cap) (hl : findN ns y 0 = some (l, k')) (hk' : k' ≠ .cap)
    (hL : CI2 c d ns env iter L) (hB : CS c d ns env body B) (hs : ∀ x, foldedSetIterable iter env x = pure x) : C1 c d ns env (.For (.Tuple [.Name x p1, .Name y p2] kk tp) iter body [] pos) (forF (bd2 j l) L B) := ⟨fun Γ o hv => ⟨fun A n₀ G s E rm S => by
  obtain ⟨xs, hxs, hv⟩ := bind_some hv
  refine wpAny_For (wm ((hL.run Γ xs hxs).run A n₀ G s E rm S) (fun V s₁ h₁ => wm h₁ (fun it s₂ hpt => ?_))) hs
  obtain ⟨G₂, I, W, D, e, Sr, hD, hW, hself, x₂⟩ := hpt
  subst e
  obtain ⟨V, SV⟩ := S
  have O := SV.off fun b hb => (hW b hb).1
  have hnW : ∀ b ∈ W, ¬ n₀ b := fun b hb q => (hW b hb).1 (SV.bel b q)
  have T := Sr.tk ok (p1 := p1) (p2 := p2) (pos := tp) (kk := kk) (findN_get hj) hk (findN_get hl) hk' rm.handled hself O SV.base SV.fsl hnW
  have S₂ := SV.grow x₂ fun b hb => ⟨(hW b hb).1, Sr.live _ _ hD b hb⟩
  refine codeAny_mono (for_core hB rm T O SV.base SV.fsl hnW hv hD ⟨V, S₂⟩ (fun b hb => (hW b hb).2) (E := fun _ _ => False)) (fun r s' h => ?_)
  cases r with
  | ok f => obtain ⟨G', o', st⟩ := h; exact ⟨G', o', (x₂.up fun b hb => SV.bel b hb).trans st⟩
  | error e => exact h.elim⟩⟩
end
end

section
noncomputable def closP (cells : List (Str × Addr)) : List (Str × NameKind) → List (Str × Addr) → List (Str × Addr)
  | [], acc => acc
  | (n, k) :: r, acc => if k == .free then closP cells r ((n, (cells.lookup n).getD 0) :: acc) else closP cells r acc

theorem closureFor_eq {scope : Scope} {env : Env} (h : ∀ n, (n, NameKind.free) ∈ scope.names → (env.cells.lookup n).isSome = true) : closureFor scope env = pure (closP env.cells scope.names []) := by
  unfold closureFor
  have key : ∀ (l : List (Str × NameKind)) (acc : List (Str × Addr)), (∀ n, (n, NameKind.free) ∈ l → (env.cells.lookup n).isSome = true) →
      (forIn l acc fun x r => (do if (x.2 == NameKind.free) = true then do let a ← cellOf env x.1; pure (ForInStep.yield ((x.1, a) :: r)) else pure (ForInStep.yield r) : Sem (ForInStep (List (Str × Addr))))) = pure (closP env.cells l acc) := by
    intro l
    induction l with
    | nil => intro acc _; rfl
    | cons x r ih =>
      intro acc hl
      obtain ⟨n, k⟩ := x
      rw [List.forIn_cons]
      unfold closP
      by_cases hk : (k == NameKind.free) = true
      · have hk' : k = .free := by simpa using hk
        subst hk'
        obtain ⟨a, ha⟩ := Option.isSome_iff_exists.mp (hl n List.mem_cons_self)
        have hc : cellOf env n = pure a := by unfold cellOf; rw [ha]
        simp only [beq_self_eq_true, if_true, hc, ha, Option.getD_some]
        exact ih _ fun m hm => hl m (List.mem_cons_of_mem _ hm)
      · simp only [hk, Bool.false_eq_true, if_false]
        exact ih _ fun m hm => hl m (List.mem_cons_of_mem _ hm)
  exact (congrArg (fun x : Sem (List (Str × Addr)) => x >>= fun r => pure r) (key scope.names [] h))

theorem closP_mem (cells : List (Str × Addr)) : ∀ (l : List (Str × NameKind)) (acc : List (Str × Addr)) n a, (n, a) ∈ closP cells l acc → (n, a) ∈ acc ∨ ((n, NameKind.free) ∈ l ∧ a = (cells.lookup n).getD 0)
  | [], _, _, _, h => .inl h
  | (m, k) :: r, acc, n, a, h => by
    unfold closP at h
    split at h
    · rename_i hk
      rcases closP_mem cells r _ n a h with h | ⟨h1, h2⟩
      · rcases List.mem_cons.mp h with e | h
        · cases e
          have : k = .free := by simpa using hk
          subst this
          exact .inr ⟨List.mem_cons_self, rfl⟩
        · exact .inl h
      · exact .inr ⟨List.mem_cons_of_mem _ h1, h2⟩
    · rcases closP_mem cells r _ n a h with h | ⟨h1, h2⟩
      · exact .inl h
      · exact .inr ⟨List.mem_cons_of_mem _ h1, h2⟩

theorem closP_lookup (cells : List (Str × Addr)) : ∀ (l : List (Str × NameKind)) (acc : List (Str × Addr)) n, (n, NameKind.free) ∈ l → (closP cells l acc).lookup n = some ((cells.lookup n).getD 0)
  | (m, k) :: r, acc, n, h => by
    unfold closP
    by_cases hr : (n, NameKind.free) ∈ r
    · split <;> exact closP_lookup cells r _ n hr
    · have e : (n, NameKind.free) = (m, k) := (List.mem_cons.mp h).resolve_right hr
      obtain ⟨e1, e2⟩ := Prod.mk.inj e
      subst e1 e2
      simp only [beq_self_eq_true, if_true]
      have keep : ∀ (l : List (Str × NameKind)) acc, (n, NameKind.free) ∉ l → (closP cells l acc).lookup n = acc.lookup n := by
        intro l
        induction l with
        | nil => intro acc _; rfl
        | cons x r ih =>
          intro acc hn
          obtain ⟨m, k⟩ := x
          unfold closP
          have hr : (n, NameKind.free) ∉ r := fun q => hn (List.mem_cons_of_mem _ q)
          split
          · rename_i hk
            have : k = .free := by simpa using hk
            subst this
            rw [ih _ hr, List.lookup_cons]
            have : (n == m) = false := by
              rw [beq_eq_false_iff_ne]; intro e; exact hn (e ▸ List.mem_cons_self)
            rw [this]
          · exact ih _ hr
      rw [keep r _ hr, List.lookup_cons]
      simp

theorem cellsFrom_gen : ∀ (names : List (Str × NameKind)) (h : Heap) (acc : List (Str × Addr)),
    (∀ n c, (n, c) ∈ cellsFrom h.objs.size names acc → (n, c) ∈ acc ∨ (h.objs.size ≤ c ∧ (pushCells h names).IsCell c none ∧ (n, NameKind.cell) ∈ names)) ∧
    (∀ n, (n, NameKind.cell) ∈ names → ((cellsFrom h.objs.size names acc).lookup n).isSome = true) ∧
    (∀ n, (n, NameKind.cell) ∉ names → (cellsFrom h.objs.size names acc).lookup n = acc.lookup n)
  | [], h, acc => ⟨fun _ _ q => .inl q, fun _ q => (nomatch q), fun _ _ => rfl⟩
  | (m, k) :: r, h, acc => by
    unfold cellsFrom pushCells
    by_cases hk : (k == NameKind.cell) = true
    · have hk' : k = .cell := by simpa using hk
      subst hk'
      simp only [beq_self_eq_true, if_true]
      have ih := cellsFrom_gen r (h.push { cls := .type "cell", data := .cell none }) ((m, h.objs.size) :: acc)
      rw [Heap.size_push] at ih
      obtain ⟨i1, i2, i3⟩ := ih
      refine ⟨fun n c q => ?_, fun n q => ?_, fun n q => ?_⟩
      · rcases i1 n c q with q | ⟨q1, q2, q3⟩
        · rcases List.mem_cons.mp q with e | q
          · cases e
            exact .inr ⟨Nat.le_refl _, ⟨_, pushCells_keeps r _ _ _ (Heap.get?_push_size _ rfl), rfl⟩, List.mem_cons_self⟩
          · exact .inl q
        · exact .inr ⟨by omega, q2, List.mem_cons_of_mem _ q3⟩
      · by_cases hr : (n, NameKind.cell) ∈ r
        · exact i2 n hr
        · have e : (n, NameKind.cell) = (m, NameKind.cell) := (List.mem_cons.mp q).resolve_right hr
          have e1 := (Prod.mk.inj e).1
          subst e1
          rw [i3 n hr, List.lookup_cons]; simp
      · rw [i3 n fun z => q (List.mem_cons_of_mem _ z), List.lookup_cons]
        have : (n == m) = false := by
          rw [beq_eq_false_iff_ne]; intro e; exact q (e ▸ List.mem_cons_self)
        rw [this]
    · simp only [hk, Bool.false_eq_true, if_false]
      obtain ⟨i1, i2, i3⟩ := cellsFrom_gen r h acc
      have hne : k ≠ .cell := by simpa using hk
      refine ⟨fun n c q => ?_, fun n q => ?_, fun n q => i3 n fun z => q (List.mem_cons_of_mem _ z)⟩
      · rcases i1 n c q with q | ⟨q1, q2, q3⟩
        · exact .inl q
        · exact .inr ⟨q1, q2, List.mem_cons_of_mem _ q3⟩
      · rcases List.mem_cons.mp q with e | q
        · cases e; exact absurd rfl hne
        · exact i2 n q

theorem cellsFrom_apart : ∀ (names : List (Str × NameKind)) (h : Heap) (acc : List (Str × Addr)), acc.Pairwise (fun x y => x.2 ≠ y.2) → (∀ x ∈ acc, x.2 < h.objs.size) → (cellsFrom h.objs.size names acc).Pairwise fun x y => x.2 ≠ y.2
  | [], _, _, h, _ => h
  | (m, k) :: r, h, acc, hp, hl => by
    unfold cellsFrom
    split
    · have := cellsFrom_apart r (h.push { cls := .type "cell", data := .cell none }) ((m, h.objs.size) :: acc) (List.pairwise_cons.mpr ⟨fun y hy => Nat.ne_of_gt (hl y hy), hp⟩) (by
        rw [Heap.size_push]
        intro x hx
        rcases List.mem_cons.mp hx with rfl | hx
        · exact Nat.lt_succ_self _
        · exact Nat.lt_succ_of_lt (hl x hx))
      rwa [Heap.size_push] at this
    · exact cellsFrom_apart r h acc hp hl

theorem closP_apart {cells : List (Str × Addr)} (hc : cells.Pairwise fun x y => x.2 ≠ y.2) : ∀ (l : List (Str × NameKind)) (acc : List (Str × Addr)), (l.map (·.1)).Nodup → (∀ n, (n, NameKind.free) ∈ l → (cells.lookup n).isSome = true) →
    acc.Pairwise (fun x y => x.2 ≠ y.2) → (∀ x ∈ acc, cells.lookup x.1 = some x.2 ∧ x.1 ∉ l.map (·.1)) → (closP cells l acc).Pairwise fun x y => x.2 ≠ y.2
  | [], _, _, _, h, _ => h
  | (n, k) :: r, acc, nd, hs, hp, ha => by
    obtain ⟨nd1, nd2⟩ := List.nodup_cons.mp nd
    have ha' : ∀ x ∈ acc, cells.lookup x.1 = some x.2 ∧ x.1 ∉ r.map (·.1) := fun x hx => ⟨(ha x hx).1, fun q => (ha x hx).2 (List.mem_cons_of_mem _ q)⟩
    unfold closP
    split
    · rename_i hk
      have hk' : k = .free := by simpa using hk
      subst hk'
      obtain ⟨a, e⟩ := Option.isSome_iff_exists.mp (hs n List.mem_cons_self)
      rw [e, Option.getD_some]
      refine closP_apart hc r _ nd2 (fun m hm => hs m (List.mem_cons_of_mem _ hm)) (List.pairwise_cons.mpr ⟨fun y hy q => ?_, hp⟩) ?_
      · have h1 := mem_of_lookup e
        have h2 := mem_of_lookup (ha y hy).1
        have : n = y.1 := name_of_addr hc h1 (by rw [show a = y.2 from q]; exact h2)
        exact (ha y hy).2 (by rw [← this]; exact List.mem_cons_self)
      · intro x hx
        rcases List.mem_cons.mp hx with rfl | hx
        · exact ⟨e, nd1⟩
        · exact ha' x hx
    · exact closP_apart hc r _ nd2 (fun m hm => hs m (List.mem_cons_of_mem _ hm)) hp ha'

theorem wpAny_compEnv {M : Model} {A : Around} {E : Value → Shared → Prop} {s : Shared} {scope : Scope} {env : Env} {cl : List (Str × Addr)} {Q : Env → Shared → Prop}
    (h : Q { scope := scope, locals := s.heap.objs.size, globals := env.globals, cells := cellsFrom (s.heap.objs.size + 1) scope.names cl, qual := env.qual, func := none, code := env.code, frame := env.frame, builtins := env.builtins }
      { s with heap := pushCells (s.heap.push { cls := .type "dict", data := .dict #[] }) scope.names }) :
    wpAny M A (newFunctionEnv scope env.globals cl [] env.qual none .none (some env)) Q E s := by
  simp only [newFunctionEnv, Option.isSome_some, if_true]
  refine wpAny_bind (wpAny_alloc ?_)
  refine wpAny_bind (wpAny_layCells _ (fun name kind cells => by cases hkc : kind == NameKind.cell <;> simp [hkc]) _ _ _ _ ?_)
  rw [show ({ s with heap := s.heap.push { cls := .type "dict", data := .dict #[] } } : Shared).heap.objs.size = s.heap.objs.size + 1 from Heap.size_push ..]
  simp only [List.forIn_nil]
  exact wbp (wpAny_pure h)

section
variable {prog : Program} {w : World} {A : Around} {R : Result → Shared → Prop} {s : Shared}
noncomputable def testsOf (ifs : List PySem.Expr) (env : Env) : Sem Bool := forIn ifs true fun c r => if r = true then do let ok ← isTrue c env (eval c env); pure (ForInStep.yield ok) else pure (ForInStep.yield r)

noncomputable def TurnOK (M : Model) (A : Around) (target elt : PySem.Expr) (ifs : List PySem.Expr) (env : Env) (it acc : Value) (add : String) (R : Result → Shared → Prop) (I : Nat → Shared → Prop) : Prop :=
  ∀ n s, I n s → wpAny M A (pyNext it) (fun r s₁ => match r with
      | none => R (.ok .next) s₁
      | some v => wpAny M A (letOwnedTupleGo target it v) (fun _ s₀ => wpAny M A (assign target env v) (fun _ s₂ =>
          wpAny M A (testsOf ifs env) (fun ok s₃ =>
            if ok = true then wpAny M A (eval elt env) (fun x s₄ =>
              wpAny M A (call (.builtin add) [acc, x]) (fun _ s₅ => ∃ m, m < n ∧ I m s₅) (notedBy M A env fun e s' => R (.error e) s') s₄) (notedBy M A env fun e s' => R (.error e) s') s₃
            else ∃ m, m < n ∧ I m s₃) (notedBy M A env fun e s' => R (.error e) s') s₂) (notedBy M A env fun e s' => R (.error e) s') s₀)
          (notedBy M A env fun e s' => R (.error e) s') s₁) (notedBy M A env fun e s' => R (.error e) s') s
theorem compLoop_any {elt target iter : PySem.Expr} {ifs : List PySem.Expr} {scope : Scope} {pos : Pos} {it acc : Value} {env : Env} (I : Nat → Shared → Prop)
    (turn : TurnOK (model prog w) A target elt ifs env it acc "list.append" R I)
    (n : Nat) (h : I n s) : codeAny (model prog w) A (.compLoop (.ListComp elt [⟨target, iter, ifs, 0⟩] scope pos) 0 it acc env) R s := by
  refine codeAny_loop rfl I (fun n s hI => ?_) n h
  show wpAny _ A ((compTurn (.ListComp elt [⟨target, iter, ifs, 0⟩] scope pos) 0 it acc env).onRaise (fun x => do noteFrame x env; theTreesLotGoes x)) _ _ s
  refine wpAny_noted ?_
  rw [compTurn_list]
  refine wbs (wb (turn n s hI) (fun r s₁ h₁ => ?_))
  cases r with
  | none => exact wpAny_pure h₁
  | some v =>
    refine wb h₁ (fun _ s₀ h₀ => wb h₀ (fun _ s₂ h₂ => wb h₂ (fun ok s₃ h₃ => ?_)))
    cases ok with
    | false => exact wpAny_pure ⟨rfl, h₃⟩
    | true =>
      exact wpAny_bind (wb h₃ (fun x s₄ h₄ => wb h₄ (fun _ s₅ h₅ => wpAny_pure (wpAny_pure ⟨rfl, h₅⟩))))
end
end

section
noncomputable def relN (nm names : List (Str × NameKind)) : List (Str × NameKind) := names.map fun x => if (x.2 == .free && nm.lookup x.1 == some .cell) then (x.1, .cell) else x
theorem relN_lookup (nm : List (Str × NameKind)) : ∀ (names : List (Str × NameKind)) (x : Str), (relN nm names).lookup x = (names.lookup x).map fun k => if (k == .free && nm.lookup x == some .cell) then .cell else k
  | [], _ => rfl
  | (n, k) :: r, x => by
    have ih := relN_lookup nm r x
    show List.lookup x ((if (k == .free && nm.lookup n == some .cell) = true then (n, .cell) else (n, k)) :: relN nm r) = _
    rw [List.lookup_cons (as := r)]
    by_cases hc : (k == .free && nm.lookup n == some .cell) = true
    · rw [if_pos hc, List.lookup_cons]
      cases hx : x == n with
      | true =>
        have e : x = n := beq_iff_eq.mp hx
        subst e
        simp only [Option.map_some, hc, if_true]
      | false => exact ih
    · rw [if_neg hc, List.lookup_cons]
      cases hx : x == n with
      | true =>
        have e : x = n := beq_iff_eq.mp hx
        subst e
        simp only [Option.map_some, hc, Bool.false_eq_true, if_false]
      | false => exact ih

theorem cyc {a b c : Nat} (h1 : a < b) (h2 : b < c) (h3 : c < a) : False := Nat.lt_irrefl _ (Nat.lt_trans (Nat.lt_trans h1 h2) h3)
theorem relabel_names {ns nm} {env : Env} (K : EnvK ns nm env) (scope : Scope) : (relabel scope env).names = relN nm scope.names := by
  unfold relabel relN
  dsimp only
  refine List.map_congr_left fun x _ => ?_
  obtain ⟨n, k⟩ := x
  have h1 : env.scope.kind = .function := K.ok.fn
  simp only [h1, K.kinds n, beq_self_eq_true, Bool.and_true]

noncomputable def compOk1 (ns : List (Str × NK)) (names : List (Str × NameKind)) : (Str × NK) × Option Nat → Bool
  | ((x, k), cp) => !(x == ("__debug__" : Str)) && match k with
    | .loc => names.lookup x == some .local && cp == none
    | .own => names.lookup x == some .cell && cp == none
    | .cap => names.lookup x == some .free && !(x == ("__classdict__" : Str)) && match findN ns x 0 with
      | some (j, k') => k' != .loc && cp == some j
      | none => false
noncomputable def compOk (ns ns' : List (Str × NK)) (names : List (Str × NameKind)) (caps : List (Option Nat)) : Bool :=
  decide ((names.map (·.1)).Nodup) && decide ((ns'.map (·.1)).Nodup) && (caps.length == ns'.length) && ((ns'.zip caps).all (compOk1 ns names)) &&
  names.all fun x => x.2 != .free || match findN ns x.1 0 with
    | some (_, k') => k' != .loc
    | none => false

structure CompOK (ns ns' : List (Str × NK)) (names : List (Str × NameKind)) (caps : List (Option Nat)) : Prop where
  nd : (names.map (·.1)).Nodup
  nd' : (ns'.map (·.1)).Nodup
  free : ∀ n, (n, NameKind.free) ∈ names → ∃ (j : Nat) (k : NK), ns[j]? = some (n, k) ∧ k ≠ NK.loc
  each : ∀ (i : Nat) x k, ns'[i]? = some (x, k) → (x == ("__debug__" : Str)) = false ∧ ∃ cp, caps[i]? = some cp ∧ match k with
    | NK.loc => names.lookup x = some .local ∧ cp = none
    | NK.own => names.lookup x = some .cell ∧ cp = none
    | NK.cap => names.lookup x = some .free ∧ (x == ("__classdict__" : Str)) = false ∧ ∃ (j : Nat) (k' : NK), cp = some j ∧ ns[j]? = some (x, k') ∧ k' ≠ NK.loc
  len : caps.length = ns'.length

theorem CompOK.of {ns ns' names caps} (h : compOk ns ns' names caps = true) : CompOK ns ns' names caps := by
  unfold compOk at h
  simp only [Bool.and_eq_true, decide_eq_true_eq, beq_iff_eq, List.all_eq_true] at h
  obtain ⟨⟨⟨⟨h1, h2⟩, h3⟩, h4⟩, h5⟩ := h
  refine ⟨h1, h2, fun n hn => ?_, fun i x k hi => ?_, h3⟩
  · have := h5 _ hn
    simp only [bne_self_eq_false, Bool.false_or] at this
    split at this
    · rename_i e
      exact ⟨_, _, findN_get e, by simpa using this⟩
    · cases this
  · have hl : i < caps.length := by rw [h3]; exact (List.getElem?_eq_some_iff.mp hi).1
    have hc : caps[i]? = some caps[i] := List.getElem?_eq_getElem hl
    have hz : ((x, k), caps[i]) ∈ ns'.zip caps := List.mem_of_getElem? (List.getElem?_zip_eq_some.mpr ⟨hi, hc⟩)
    have z := h4 _ hz
    simp only [compOk1, Bool.and_eq_true, Bool.not_eq_true'] at z
    refine ⟨z.1, _, hc, ?_⟩
    have z2 := z.2
    cases k with
    | loc => simpa using z2
    | own => simpa using z2
    | cap =>
      dsimp only at z2 ⊢
      simp only [Bool.and_eq_true, Bool.not_eq_true', beq_iff_eq] at z2
      obtain ⟨⟨z3, z4⟩, z5⟩ := z2
      refine ⟨z3, z4, ?_⟩
      split at z5
      · rename_i e
        simp only [Bool.and_eq_true, bne_iff_ne, ne_eq, beq_iff_eq] at z5
        exact ⟨_, _, z5.2, findN_get e, z5.1⟩
      · cases z5

noncomputable def compΓ (caps : List (Option Nat)) (Γ : List Slot) : List Slot := caps.map fun cp => match cp with
  | some j => (match Γ[j]? with
    | some (.val v) => .val v
    | _ => .un)
  | none => .un

noncomputable def compP (bd : PV → List Slot → List Slot) (T : SF Bool) (F : SF PV) : List PV → List Slot → Option (List PV)
  | [], _ => some []
  | x :: xs, Γ => (T (bd x Γ)).bind fun b => if b then (F (bd x Γ)).bind fun v => (compP bd T F xs (bd x Γ)).map (v :: ·) else compP bd T F xs (bd x Γ)

structure CTs (c : Ctx0) (d : Nat) (ns : List (Str × NK)) (env : Env) (ifs : List PySem.Expr) (T : SF Bool) : Prop where
  run : ∀ Γ b, T Γ = some b → ∀ (A : Around) (n₀ : Addr → Prop) (G : PH c.w) (s : Shared) (E : Value → Shared → Prop), Rm d A → St c ns env Γ A n₀ G s → wpAny c.M A (testsOf ifs env) (XPB A G s b) E s
section
variable {c : Ctx0} {d : Nat} {ns : List (Str × NK)} {env : Env} {Γ : List Slot} {nm : List (Str × NameKind)}
theorem CTs_nil : CTs c d ns env [] (fun _ => some true) := ⟨fun Γ b h A n₀ G s E _ S => by
  cases h
  exact wpAny_tests_nil ⟨G, rfl, Step.refl S.gs⟩⟩
theorem CTs_one {t F} (h : CB c d ns env t F) : CTs c d ns env [t] F := ⟨fun Γ b hb A n₀ G s E rm S => wpAny_tests_one ((h.run Γ b hb).run A n₀ G s E rm S)⟩

theorem Step.pinL {A} {n : Addr → Prop} {G s G' s'} (x : Step A n G s G' s') {D : Addr} {o : Obj} (ho : s'.heap.get? D = some o) (hG : G' D = none) (hn : ¬ n D) : Step A n G s (pin G' D o) s' where
  sub := fun b o' e => by
    unfold pin at e
    split at e
    · rename_i h; cases e; rw [h]; exact ho
    · exact x.sub b o' e
  le := fun b o' e => by
    unfold pin
    split
    · rename_i h; have := x.le b o' e; rw [h, hG] at this; cases this
    · exact x.le b o' e
  new := fun b h1 h2 => by
    unfold pin at h2
    split at h2
    · rename_i h; rw [h]; exact hn
    · exact x.new b h1 h2
  keep := x.keep
  fr := x.fr
  os := x.os
  gens := x.gens
  tab := x.tab.mono fun b o' e => by
    unfold pin
    split
    · rename_i h; rw [h, hG] at e; cases e
    · exact e
  tk := x.tk
theorem pin_keep {G : PH w} {D : Addr} {o : Obj} (hG : G D = none) : ∀ b o', G b = some o' → pin G D o b = some o' := fun b o' e => by
  unfold pin
  split
  · rename_i h; rw [h, hG] at e; cases e
  · exact e

theorem lookup_of_mem_nodup : ∀ {names : List (Str × NameKind)} {x : Str} {k : NameKind}, (names.map (·.1)).Nodup → (x, k) ∈ names → names.lookup x = some k
  | (n, k') :: r, x, k, nd, h => by
    obtain ⟨n1, n2⟩ := List.nodup_cons.mp nd
    rcases List.mem_cons.mp h with e | h2
    · cases e; simp
    · have hne : (x == n) = false := by
        rw [beq_eq_false_iff_ne]; intro e; exact n1 (e ▸ List.mem_map.mpr ⟨_, h2, rfl⟩)
      rw [List.lookup_cons, hne]
      exact lookup_of_mem_nodup n2 h2

theorem keep_none {A : Around} {G G' : PH w} {s s' : Shared} (x : Step A (Bel s) G s G' s') (b : Addr) (o : Obj) (e : s.heap.get? b = some o) (h : G b = none) : G' b = none := by
  cases e' : G' b with
  | none => rfl
  | some o' => exact absurd ⟨o, e⟩ (x.new b h (by rw [e']; simp))

inductive CInv {c : Ctx0} (ns' : List (Str × NK)) (cenv : Env) (A : Around) (n₁ : Addr → Prop) (W : List Addr) (G : PH c.w) (s : Shared) (G₂ : PH c.w) (Dl Cl : Addr) (D : Nat → Heap → Prop) (Acc : PH c.w → List PV → Obj → Prop) (bd : PV → List Slot → List Slot) (T : SF Bool) (F : SF PV) (xs out : List PV) (k : Nat) (s' : Shared) : Prop where
  | mk (i : Nat) (Γ' : List Slot) (G' : PH c.w) (ys r : List PV) (o : Obj) (hk : k = xs.length - i + 1) (hi : i ≤ xs.length) (hD : D i s'.heap) (hS : St c ns' cenv Γ' A (addW n₁ W) G' s') (hW : ∀ b ∈ W, G' b = none) (hGD : G' Dl = none) (hGC : G' Cl = none)
      (st : Step A (Bel s) G s G' s') (hle : ∀ b o, G₂ b = some o → G' b = some o) (hpl : s'.heap.get? Dl = some o) (hys : Acc G' ys o) (hr : compP bd T F (xs.drop i) Γ' = some r) (hyr : ys ++ r = out) (hyl : ys.length ≤ i) : CInv ns' cenv A n₁ W G s G₂ Dl Cl D Acc bd T F xs out k s'
set_option tactic.hygienic true in
theorem comp_gen {Src : (c : Ctx0) → Around → PH c.w → Addr → List Addr → List PV → (Nat → Heap → Prop) → Prop} {scope : Scope} {ns' : List (Str × NK)} {caps : List (Option Nat)} {tgt elt iter : PySem.Expr} {ifs : List PySem.Expr} {p0 : Pos}
    {ce : PySem.Expr} {mk : Sem Value} {o₀ : Obj} {add : String} {Acc : PH c.w → List PV → Obj → Prop} {bd : PV → List Slot → List Slot} {T : SF Bool} {F : SF PV} {use : Option (Value → Sem Unit)} {Q : Value → Shared → Prop} {E : Value → Shared → Prop}
    (K : EnvK ns nm env) (C0 : CompOK ns ns' scope.names caps) (hkind : scope.kind = .function)
    {xs out : List PV} {A : Around} {n₀ : Addr → Prop} {G : PH c.w} {s : Shared} {V : Nat → Option Value} (rm : Rm d A) (SV : StV c ns env Γ A n₀ G s V)
    (hI : wpAny c.M A (eval iter env) (fun V s₁ => wpAny c.M A (pyIter V) (XI Src c A G s xs) E s₁) E s)
    (hlive : ∀ {A G I W D}, Src c A G I W xs D → ∀ i h, D i h → ∀ b ∈ W, ∃ o, h.get? b = some o)
    (hT : ∀ {cenv : Env} {A : Around} {G I W D} {n₁ : Addr → Prop}, Src c A G I W xs D → A.handled = none → (∀ i (s : Shared) (Q : Value → Shared → Prop) (E : Value → Shared → Prop), D i s.heap → Q (.ref I) s → wpAny c.M A (pyIter (.ref I)) Q E s) →
      EnvOK ns' cenv → Off ns' cenv A W → n₁ 86 → (∀ L ∈ FS A, n₁ L ∨ L = cenv.locals) → (∀ b ∈ W, ¬ n₁ b) → Tk c ns' cenv A tgt I W n₁ G bd xs D)
    (hts : ∀ cenv, EnvK ns' (relN nm scope.names) cenv → CTs c d ns' cenv ifs T) (hel : ∀ cenv, EnvK ns' (relN nm scope.names) cenv → CE c d ns' cenv elt F)
    (hout : compP bd T F xs (compΓ caps Γ) = some out) (hsz : xs.length ≤ sizeLine)
    (hs : ∀ x, foldedSetIterable iter env x = pure x)
    (hfr : o₀.isFreed = false) (hcl : clausesOf ce = [⟨tgt, iter, ifs, 0⟩]) (hmk : ∀ {s : Shared} {Q : Value → Shared → Prop} {E : Value → Shared → Prop}, Q (.ref s.heap.objs.size) { s with heap := s.heap.push o₀ } → wpAny c.M A mk Q E s)
    (hloop : ∀ {it acc : Value} {env : Env} {R : Result → Shared → Prop} {s : Shared} (I : Nat → Shared → Prop), TurnOK c.M A tgt elt ifs env it acc add R I → ∀ n, I n s → codeAny c.M A (.compLoop ce 0 it acc env) R s)
    (hstart : ∀ {it acc : Value} {env : Env} {R : Result → Shared → Prop} {s : Shared}, codeAny c.M A (.compLoop ce 0 it acc env) R s →
      wpAny c.M A (pyIter it) (fun it' s' => codeAny c.M A (.compLoop ce 0 it' acc env) R s') (notedBy c.M A env fun x s' => R (.error x) s') s → codeAny c.M A (.compStart ce 0 it acc env) R s)
    (acc0 : ∀ G, Acc G [] o₀) (accM : ∀ {G G' : PH c.w} {ys o}, (∀ b o, G b = some o → G' b = some o) → Acc G ys o → Acc G' ys o)
    (hadd : ∀ {G : PH c.w} {s : Shared} {ys : List PV} {o : Obj} {a : Addr} {u : PV} {y : Value} {Q : Value → Shared → Prop} {E : Value → Shared → Prop}, s.heap.get? a = some o → Acc G ys o → Holds G u y → u ∈ out → ys.length ≤ sizeLine →
      (∀ h' o' tk, Heap.SameBut a s.heap h' → h'.get? a = some o' → Acc G (ys ++ [u]) o' → s.toks ≤ tk → Q .none { s with heap := h', toks := tk }) → wpAny c.M A (call (.builtin add) [.ref a, y]) Q E s)
    (hfin : ∀ s' (G' : PH c.w) D C o m f, Step A (Bel s) G s G' s' → s'.heap.get? D = some o → G' D = none → ¬ Bel s D → Acc G' out o → s'.heap.Ns C m → G' C = none → ¬ Bel s C → C ≠ D → compPost c.M A E use Q (.ref D) C (.ok f) s') :
    wpAny c.M A (comprehension ce scope env p0 mk false (eval iter env) use) Q E s := by
  have hcells : ∀ n, (n, NameKind.free) ∈ scope.names → ∃ a v, env.cells.lookup n = some a ∧ s.heap.IsCell a v := fun n hn => by
    obtain ⟨j, k, hj, hk⟩ := C0.free n hn
    obtain ⟨a, h1, h2, _⟩ := SV.cel j n k hj hk
    exact ⟨a, _, h1, h2⟩
  have hsome : ∀ n, (n, NameKind.free) ∈ scope.names → (env.cells.lookup n).isSome = true := fun n hn => by
    obtain ⟨a, _, h1, _⟩ := hcells n hn; rw [h1]; rfl
  refine wpAny_comprehension_free hcl hs (closureFor_eq hsome) hkind (fun x hx hl => by
    obtain ⟨n, k⟩ := x; dsimp only at hl ⊢; subst hl; exact lookup_of_mem_nodup C0.nd hx) ?_
  refine wm hI (fun V₁ s₁ h₁ => wm h₁ (fun it s₂ hpt => ?_))
  obtain ⟨G₂, I, W, D, e, Sr, hD, hW, hself, x₂⟩ := hpt
  subst e
  have O := SV.off fun b hb => (hW b hb).1
  have SV₂ := SV.step x₂
  have tab₂ := SV₂.gs.tab
  refine hmk (wpAny_compEnv ?_)
  dsimp only
  generalize hH3 : s₂.heap.push o₀ = H3
  have hDa : H3.get? s₂.heap.objs.size = some o₀ := by rw [← hH3]; exact Heap.get?_push_size _ hfr
  have up3 : ∀ b o, s₂.heap.get? b = some o → H3.get? b = some o := fun b o e => by rw [← hH3]; exact Heap.get?_push_of_some _ e
  have sz3 : H3.objs.size = s₂.heap.objs.size + 1 := by rw [← hH3, Heap.size_push]
  have Dlt : s₂.heap.objs.size < H3.objs.size := by rw [sz3]; exact Nat.lt_succ_self _
  generalize hH4 : pushCells (H3.push { cls := .type "dict", data := .dict #[] }) scope.names = H4
  have up4 : ∀ b o, H3.get? b = some o → H4.get? b = some o := fun b o e => by rw [← hH4]; exact pushCells_keeps _ _ b o (Heap.get?_push_of_some _ e)
  have nsC : H4.Ns H3.objs.size (fun _ => none) := by rw [← hH4]; exact (Heap.Ns.new H3 (.type "dict")).keeps (pushCells_keeps _ _)
  have G2n : ∀ b, s₂.heap.objs.size ≤ b → G₂ b = none := fun b hb => by
    cases e : G₂ b with
    | none => rfl
    | some o => exact absurd (Heap.lt_size (x₂.sub b o e)) (Nat.not_lt.mpr hb)
  have gen := cellsFrom_gen scope.names (H3.push { cls := .type "dict", data := .dict #[] }) (closP env.cells scope.names [])
  have gap := cellsFrom_apart scope.names (H3.push { cls := .type "dict", data := .dict #[] }) (closP env.cells scope.names [])
    (closP_apart K.ok.apart scope.names [] C0.nd hsome List.Pairwise.nil (by simp)) (fun x hx => by
      obtain ⟨n, a⟩ := x
      rcases closP_mem env.cells scope.names [] n a hx with h | ⟨h1, h2⟩
      · cases h
      · obtain ⟨a', v, e1, ⟨o, eo, hdc⟩⟩ := hcells n h1
        have h3 : a = a' := by rw [e1] at h2; exact h2
        subst h3
        obtain ⟨sl, e2⟩ := x₂.fr a o ⟨o, eo⟩ eo (fun q => by
          subst q; obtain ⟨ps, t1, _⟩ := SV.gs.tab; rw [eo] at t1; cases t1; cases hdc)
        have := Heap.lt_size (up3 _ _ e2)
        rw [Heap.size_push]
        exact Nat.lt_succ_of_lt this)
  rw [Heap.size_push, hH4] at gen
  rw [Heap.size_push] at gap
  obtain ⟨gen1, gen2, gen3⟩ := gen
  generalize hcs : cellsFrom (H3.objs.size + 1) scope.names (closP env.cells scope.names []) = cs at gen1 gen2 gen3 gap
  let cenv : Env := { scope := relabel scope env, locals := H3.objs.size, globals := env.globals, cells := cs, qual := env.qual, func := none, code := env.code, frame := env.frame, builtins := env.builtins }
  have capL : ∀ x, scope.names.lookup x = some .free → cs.lookup x = some ((env.cells.lookup x).getD 0) := fun x hx => by
    have hm : (x, NameKind.free) ∈ scope.names := mem_of_lookup hx
    rw [gen3 x (fun q => by rw [lookup_of_mem_nodup C0.nd q] at hx; cases hx)]
    exact closP_lookup env.cells scope.names [] x hm
  have kinds : ∀ x, cenv.kindOf x = (relN nm scope.names).lookup x := fun x => by
    show (relabel scope env).names.lookup x = _
    rw [relabel_names K]
  have ok' : EnvOK ns' cenv := by
    refine ⟨hkind, fun i x hi => ?_, fun i x hi => ?_, fun i x hi => ?_, C0.nd', fun i x k hi => (C0.each i x k hi).1, gap, K.ok.globals, K.ok.builtins⟩
    · obtain ⟨_, cp, _, h1, _⟩ := C0.each i x .loc hi
      rw [kinds, relN_lookup, h1]; rfl
    · obtain ⟨_, cp, _, h1, _⟩ := C0.each i x .own hi
      rw [kinds, relN_lookup, h1]; rfl
    · obtain ⟨_, cp, _, h1, h2, _⟩ := C0.each i x .cap hi
      refine ⟨?_, h2⟩
      rw [kinds, relN_lookup, h1]
      simp only [Option.map_some, beq_self_eq_true, Bool.true_and]
      split
      · exact .inl rfl
      · exact .inr rfl
  have K' : EnvK ns' (relN nm scope.names) cenv := ⟨ok', kinds, by show (if (relabel scope env).kind.isAnnotationScope then _ else _) = _; rw [show (relabel scope env).kind = .function from hkind]; rfl⟩
  let s₄ : Shared := { s₂ with heap := H4 }
  have up24 : ∀ b o, s₂.heap.get? b = some o → H4.get? b = some o := fun b o e => up4 b o (up3 b o e)
  let n₁ : Addr → Prop := fun b => (∃ o, H3.get? b = some o) ∧ b ∉ W
  have nC : ∀ b, H3.objs.size ≤ b → ¬ n₁ b := fun b hb ⟨⟨o, e⟩, _⟩ => Nat.lt_irrefl _ (Nat.lt_of_lt_of_le (Heap.lt_size e) hb)
  have wlt : ∀ b ∈ W, b < s₂.heap.objs.size := fun b hb => by obtain ⟨o, e⟩ := hlive Sr 0 _ hD b hb; exact Heap.lt_size e
  have cL : ∀ (i : Nat) x k a, ns'[i]? = some (x, k) → k ≠ NK.loc → cs.lookup x = some a → (k = .own → H3.objs.size < a ∧ H4.IsCell a none) ∧ (k = .cap → env.cells.lookup x = some a ∧ scope.names.lookup x = some .free) := by
    intro i x k a hi hk ha
    obtain ⟨_, cp, _, hh⟩ := C0.each i x k hi
    refine ⟨fun q => ?_, fun q => ?_⟩
    · subst q
      rcases gen1 x a (mem_of_lookup ha) with h | ⟨h1, h2, _⟩
      · rcases closP_mem _ _ _ x a h with h | ⟨h3, _⟩
        · cases h
        · rw [lookup_of_mem_nodup C0.nd h3] at hh; exact absurd hh.1 (by decide)
      · exact ⟨h1, h2⟩
    · subst q
      have := capL x hh.1
      rw [ha] at this
      obtain ⟨a', v, e1, _⟩ := hcells x (mem_of_lookup hh.1)
      rw [e1] at this ⊢
      exact ⟨by simpa using this.symm, hh.1⟩
  have O' : Off ns' cenv A W := by
    refine ⟨O.t86, O.fs, fun i x k a hi hk ha => ?_, fun q => ?_⟩
    · obtain ⟨h1, h2⟩ := cL i x k a hi hk ha
      cases k with
      | loc => exact absurd rfl hk
      | own => intro q; exact cyc Dlt (h1 rfl).1 (wlt a q)
      | cap =>
        obtain ⟨h3, h4⟩ := h2 rfl
        obtain ⟨j, k', hj, hk'⟩ := C0.free x (mem_of_lookup h4)
        exact O.cel j x k' a hj hk' h3
    · have : H3.objs.size < s₂.heap.objs.size := wlt _ q
      exact Nat.lt_asymm Dlt this
  have n86 : n₁ 86 := by obtain ⟨ps, h1, _⟩ := tab₂; exact ⟨⟨_, up3 _ _ h1⟩, O.t86⟩
  have hf : ∀ L ∈ FS A, n₁ L ∨ L = cenv.locals := fun L hL => by
    obtain ⟨_, o, e, _⟩ := SV₂.gs.fs L hL
    exact .inl ⟨⟨o, up3 _ _ e⟩, O.fs L hL⟩
  have hnW : ∀ b ∈ W, ¬ n₁ b := fun b hb q => q.2 hb
  have TK := hT (n₁ := n₁) Sr rm.handled hself ok' O' n86 hf hnW
  have g₄ : GS c A G₂ s₄ := SV₂.gs.step (Step.fresh (n₁ := fun _ => True) SV₂.gs (tk := s₂.toks) (Nat.le_refl _) up24) (fun _ _ => trivial) trivial
  let V' : Nat → Option Value := fun i => match caps[i]? with
    | some (some j) => V j
    | _ => none
  have S₄ : StV c ns' cenv (compΓ caps Γ) A (addW n₁ W) G₂ s₄ V' := by
    refine ⟨g₄, .inl n86, fun b hb => ?_, fun L hL => (hf L hL).imp .inl id, ⟨_, nsC, fun i x hi => ?_⟩, ⟨G2n _ (Nat.le_of_lt Dlt), fun q => q.elim (nC _ (Nat.le_refl _)) O'.loc⟩, fun i x k hi hk => ?_, fun i sl hi => ?_, fun i j x y _ hx _ ho _ => ?_⟩
    · rcases hb with ⟨⟨o, e⟩, _⟩ | hb
      · exact ⟨o, up4 _ _ e⟩
      · obtain ⟨o, e⟩ := hlive Sr 0 _ hD b hb; exact ⟨o, up24 _ _ e⟩
    · obtain ⟨_, cp, h1, h2, h3⟩ := C0.each i x .loc hi
      show none = V' i
      simp only [V', h1, h3]
    · obtain ⟨_, cp, h1, h2⟩ := C0.each i x k hi
      cases k with
      | loc => exact absurd rfl hk
      | own =>
        obtain ⟨a, ha⟩ := Option.isSome_iff_exists.mp (gen2 x (mem_of_lookup h2.1))
        obtain ⟨h3, _⟩ := cL i x .own a hi hk ha
        obtain ⟨h4, h5⟩ := h3 rfl
        refine ⟨a, ha, ?_, fun _ => ⟨G2n _ (Nat.le_of_lt (Nat.lt_trans Dlt h4)), fun q => q.elim (nC _ (Nat.le_of_lt h4)) fun q => ?_⟩⟩
        · show H4.IsCell a (V' i)
          simp only [V', h1, h2.2]
          exact h5
        · exact cyc Dlt h4 (wlt a q)
      | cap =>
        obtain ⟨h3, h4, j, k', e1, e2, e3⟩ := h2
        obtain ⟨a, ha, hc, _⟩ := SV₂.cel j x k' e2 e3
        refine ⟨a, ?_, ?_, fun q => by cases q⟩
        · show cs.lookup x = some a
          rw [capL x h3, ha]; rfl
        · show H4.IsCell a (V' i)
          simp only [V', h1, e1]
          obtain ⟨o, eo, hd⟩ := hc
          exact ⟨o, up24 _ _ eo, hd⟩
    · unfold compΓ at hi
      rw [List.getElem?_map] at hi
      cases hc : caps[i]? with
      | none => rw [hc] at hi; cases hi
      | some cp =>
        rw [hc] at hi
        simp only [Option.map_some, Option.some.injEq] at hi
        subst hi
        cases cp with
        | none => trivial
        | some j =>
          dsimp only
          split
          · rename_i v hv
            obtain ⟨y, e, hh⟩ := SV₂.slot j _ hv
            refine ⟨y, ?_, hh⟩
            show V' i = some y
            simp only [V', hc]; exact e
          · trivial
    · unfold compΓ at hx
      rw [List.getElem?_map] at hx
      cases hc : caps[i]? with
      | none => rw [hc] at hx; cases hx
      | some cp =>
        rw [hc] at hx
        simp only [Option.map_some, Option.some.injEq] at hx
        subst hx
        cases cp with
        | none => cases ho
        | some j => dsimp only at ho; split at ho <;> cases ho
  have nD : n₁ s₂.heap.objs.size := ⟨⟨_, hDa⟩, fun q => Nat.lt_irrefl _ (wlt _ q)⟩
  have bsD : ¬ Bel s s₂.heap.objs.size := fun q => by obtain ⟨o, e⟩ := x₂.alive q; exact Nat.lt_irrefl _ (Heap.lt_size e)
  have bsC : ¬ Bel s H3.objs.size := fun q => by obtain ⟨o, e⟩ := x₂.alive q; exact Nat.lt_asymm Dlt (Heap.lt_size e)
  have ne86 : s₂.heap.objs.size ≠ 86 := fun q => by obtain ⟨ps, h1, _⟩ := tab₂; rw [← q] at h1; exact Nat.lt_irrefl _ (Heap.lt_size h1)
  have nFS : s₂.heap.objs.size ∉ FS A := fun q => by obtain ⟨_, o, e, _⟩ := SV₂.gs.fs _ q; exact Nat.lt_irrefl _ (Heap.lt_size e)
  have OD : Off ns' cenv A [s₂.heap.objs.size] := by
    refine ⟨by simpa using Ne.symm ne86, fun L hL q => nFS (by rw [List.mem_singleton] at q; exact q ▸ hL), fun i x k a hi hk ha q => ?_, fun q => ?_⟩
    · rw [List.mem_singleton] at q
      obtain ⟨h1, h2⟩ := cL i x k a hi hk ha
      cases k with
      | loc => exact absurd rfl hk
      | own => exact Nat.lt_asymm Dlt (q ▸ (h1 rfl).1)
      | cap =>
        obtain ⟨h3, h4⟩ := h2 rfl
        obtain ⟨j, k', hj, hk'⟩ := C0.free x (mem_of_lookup h4)
        obtain ⟨a', ha', ⟨o, eo, _⟩, _⟩ := SV₂.cel j x k' hj hk'
        rw [h3] at ha'; cases ha'
        exact Nat.lt_irrefl _ (q ▸ Heap.lt_size eo)
    · rw [List.mem_singleton] at q
      have : H3.objs.size = s₂.heap.objs.size := q
      exact Nat.ne_of_gt Dlt this
  have toN : ∀ b, Bel s b → n₁ b := fun b hb => by
    obtain ⟨o, e⟩ := x₂.alive hb
    exact ⟨⟨o, up3 _ _ e⟩, fun q => (hW b q).1 hb⟩
  have st₄ : Step A (Bel s) G s G₂ s₄ := x₂.trans (Step.fresh SV₂.gs (tk := s₂.toks) (Nat.le_refl _) up24)
  have loop : codeAny c.M A (.compLoop ce 0 (.ref I) (.ref s₂.heap.objs.size) cenv) (compPost c.M A E use Q (.ref s₂.heap.objs.size) H3.objs.size) s₄ := by
    refine hloop (CInv (c := c) ns' cenv A n₁ W G s G₂ s₂.heap.objs.size H3.objs.size D Acc bd T F xs out) ?_ (xs.length + 1)
      (.mk 0 _ G₂ [] out o₀ (by rw [Nat.sub_zero]) (Nat.zero_le _) (TK.frame _ _ _ hD (fun b _ o e => up24 b o e) (fun b o e => ⟨x₂.sub b o e, up24 _ _ (x₂.sub b o e)⟩)) ⟨_, S₄⟩ (fun b hb => (hW b hb).2) (G2n _ (Nat.le_refl _)) (G2n _ (Nat.le_of_lt Dlt)) st₄ (fun _ _ e => e) (up4 _ _ hDa) (acc0 _) hout rfl (Nat.zero_le _))
    rintro k s' ⟨i, Γ', G', ys, r, o, rfl, hi, hD', hS', hGW, hGD, hGC, st, hle, hpl, hys, hr, hyr, hyl⟩
    cases hx : xs[i]? with
    | none =>
      have hin : i = xs.length := Nat.le_antisymm hi (by simpa using hx)
      subst hin
      rw [List.drop_length] at hr
      cases hr
      rw [List.append_nil] at hyr
      subst hyr
      refine wm (TK.done Γ' G' s' (fun s₁ => St c ns' cenv Γ' A n₁ G' s₁ ∧ Step A n₁ G' s' G' s₁) _ hD' hS' hGW fun s₁ a b => ⟨a, b⟩) (fun r s₁ hpt => ?_)
      obtain ⟨e, S₁, st₁⟩ := hpt
      subst e
      obtain ⟨V₁, SV₁⟩ := S₁
      obtain ⟨m, hm, _⟩ := SV₁.loc
      exact hfin s₁ G' _ _ o m _ (st.trans (st₁.up toN)) (st₁.keep _ _ nD hpl ne86 nFS) hGD bsD hys hm hGC bsC (Nat.ne_of_gt Dlt)
    | some x =>
      have hlt : i < xs.length := (List.getElem?_eq_some_iff.mp hx).1
      have hdrop : xs.drop i = x :: xs.drop (i + 1) := by
        rw [List.drop_eq_getElem_cons hlt]
        congr 1
        exact (List.getElem?_eq_some_iff.mp hx).2
      rw [hdrop] at hr
      obtain ⟨b, hb, hrest⟩ := bind_some hr
      refine wm (TK.item i x Γ' G' s' (fun s₃ => D (i + 1) s₃.heap ∧ St c ns' cenv (bd x Γ') A (addW n₁ W) G' s₃ ∧ Step A n₁ G' s' G' s₃) _ hx hD' hS' hle hGW fun s₃ a b c => ⟨a, b, c⟩) (fun r s₁ hpt => ?_)
      obtain ⟨v, e, hv⟩ := hpt
      subst e
      refine wm hv (fun _ s₂' hv₂ => wm hv₂ (fun _ s₃ hpt => ?_))
      obtain ⟨hD₃, S₃, st₃⟩ := hpt
      have e₃ : s₃.heap.get? s₂.heap.objs.size = some o := st₃.keep _ _ nD hpl ne86 nFS
      refine wm ((hts cenv K').run _ b hb A (addW n₁ W) G' s₃ _ rm S₃) (fun ok s₅ hpt => ?_)
      obtain ⟨G₅, e, x₅⟩ := hpt
      subst e
      have liveW := TK.live _ _ hD₃
      obtain ⟨V₃, SV₃⟩ := S₃
      obtain ⟨m₃, hm₃, _⟩ := SV₃.loc
      obtain ⟨oC, eC, _⟩ := ns_obj0 hm₃
      have frameD : ∀ {G₉ : PH c.w} {s₉ : Shared}, Step A (Bel s₃) G' s₃ G₉ s₉ → D (i + 1) s₉.heap := fun x₅ => TK.frame _ _ _ hD₃ (fun b hb o e => x₅.keep b o ⟨o, e⟩ e (fun z => O.t86 (z ▸ hb)) (fun z => O.fs b z hb))
        fun b o e => ⟨SV₃.gs.sub b o (hle b o e), x₅.sub b o (x₅.le b o (hle b o e))⟩
      cases ok with
      | false =>
        simp only [Bool.false_eq_true, if_false] at hrest ⊢
        refine ⟨xs.length - (i + 1) + 1, turn_lt hlt, .mk (i + 1) _ G₅ ys _ o rfl hlt (frameD x₅) (St.step ⟨_, SV₃⟩ x₅) (fun b hb => ?_) (keep_none x₅ _ _ e₃ hGD) (keep_none x₅ _ _ eC hGC) ((st.trans (st₃.up toN)).trans (x₅.up fun b hb => ?_)) (fun b o e => x₅.le _ _ (hle b o e)) (x₅.keep _ _ ⟨_, e₃⟩ e₃ ne86 nFS) (accM x₅.le hys) hrest hyr (Nat.le_succ_of_le hyl)⟩
        · obtain ⟨o, e⟩ := liveW b hb; exact keep_none x₅ b o e (hGW b hb)
        · exact (st.trans (st₃.up toN)).alive hb
      | true =>
        simp only [if_true] at hrest ⊢
        obtain ⟨u, hu, hrest⟩ := bind_some hrest
        obtain ⟨r', hr', e⟩ := Option.map_eq_some_iff.mp hrest
        subst e
        refine wm (((hel cenv K').run _ u hu).run A (addW n₁ W) G₅ s₅ _ rm (St.step ⟨_, SV₃⟩ x₅)) (fun y s₆ hpt => ?_)
        obtain ⟨G₆, hy, x₆'⟩ := hpt
        have x₆ : Step A (Bel s₃) G' s₃ G₆ s₆ := x₅.then x₆'
        have S₆ := SV₃.step x₆
        have hpl₆ : s₆.heap.get? s₂.heap.objs.size = some o := x₆.keep _ _ ⟨_, e₃⟩ e₃ ne86 nFS
        have hGD₆ := keep_none x₆ _ _ e₃ hGD
        have st₆ : Step A (Bel s) G s G₆ s₆ := (st.trans (st₃.up toN)).trans (x₆.up fun b hb => (st.trans (st₃.up toN)).alive hb)
        refine hadd hpl₆ (accM x₆.le hys) hy (by rw [← hyr]; simp) (Nat.le_trans hyl (Nat.le_trans hi hsz)) fun h₇ o₇ tk₇ hs₇ hl₇ hac₇ htk₇ => ?_
        have hk₇ : ∀ b o, b ∉ [s₂.heap.objs.size] → s₆.heap.get? b = some o → h₇.get? b = some o := fun b o hb e => (hs₇.2 b (fun q => hb (by rw [q]; exact List.mem_singleton.mpr rfl))).trans e
        refine ⟨xs.length - (i + 1) + 1, turn_lt hlt, .mk (i + 1) _ G₆ (ys ++ [u]) r' o₇ rfl hlt ?_ ⟨V₃, S₆.touch (W := [s₂.heap.objs.size]) OD (fun b hb => by rw [List.mem_singleton] at hb; subst hb; exact hGD₆) (fun b hb => by rw [List.mem_singleton] at hb; subst hb; exact .inl nD) (tk := tk₇) htk₇ hk₇ (fun b hb => by rw [List.mem_singleton] at hb; subst hb; exact ⟨_, hl₇⟩)⟩ (fun b hb => ?_) hGD₆ (keep_none x₆ _ _ eC hGC) (st₆.trans (Step.touch S₆.gs (W := [s₂.heap.objs.size]) (fun b hb => by rw [List.mem_singleton] at hb; subst hb; exact bsD) OD.t86 (fun b hb => by rw [List.mem_singleton] at hb; subst hb; exact hGD₆) (tk := tk₇) htk₇ hk₇)) (fun b o e => x₆.le _ _ (hle b o e)) hl₇ hac₇ hr' (by rw [List.append_assoc]; exact hyr) (by rw [List.length_append]; exact Nat.add_le_add_right hyl 1)⟩
        · refine TK.frame _ _ _ (frameD x₆) (fun b hb o e => hk₇ b o (fun q => ?_) e) fun b o e => ⟨x₆.sub _ _ (x₆.le _ _ (hle b o e)), hk₇ b o (fun q => ?_) (x₆.sub _ _ (x₆.le _ _ (hle b o e)))⟩
          · rw [List.mem_singleton] at q; subst q; exact Nat.lt_irrefl _ (wlt _ hb)
          · rw [List.mem_singleton] at q; subst q; rw [G2n _ (Nat.le_refl _)] at e; cases e
        · obtain ⟨o, e⟩ := liveW b hb; exact keep_none x₆ b o e (hGW b hb)
  have hD₄ : D 0 H4 := TK.frame _ _ _ hD (fun b _ o e => up24 b o e) (fun b o e => ⟨x₂.sub b o e, up24 _ _ (x₂.sub b o e)⟩)
  exact hstart loop (TK.self 0 s₄ _ _ hD₄ loop)
theorem comp_core {Src : (c : Ctx0) → Around → PH c.w → Addr → List Addr → List PV → (Nat → Heap → Prop) → Prop} {scope : Scope} {ns' : List (Str × NK)} {caps : List (Option Nat)} {tgt elt iter : PySem.Expr} {ifs : List PySem.Expr} {pos p0 : Pos}
    {bd : PV → List Slot → List Slot} {T : SF Bool} {F : SF PV} {use : Option (Value → Sem Unit)} {Q : Value → Shared → Prop} {E : Value → Shared → Prop}
    (K : EnvK ns nm env) (C0 : CompOK ns ns' scope.names caps) (hkind : scope.kind = .function)
    {xs out : List PV} {A : Around} {n₀ : Addr → Prop} {G : PH c.w} {s : Shared} {V : Nat → Option Value} (rm : Rm d A) (SV : StV c ns env Γ A n₀ G s V)
    (hI : wpAny c.M A (eval iter env) (fun V s₁ => wpAny c.M A (pyIter V) (XI Src c A G s xs) E s₁) E s)
    (hlive : ∀ {A G I W D}, Src c A G I W xs D → ∀ i h, D i h → ∀ b ∈ W, ∃ o, h.get? b = some o)
    (hT : ∀ {cenv : Env} {A : Around} {G I W D} {n₁ : Addr → Prop}, Src c A G I W xs D → A.handled = none → (∀ i (s : Shared) (Q : Value → Shared → Prop) (E : Value → Shared → Prop), D i s.heap → Q (.ref I) s → wpAny c.M A (pyIter (.ref I)) Q E s) →
      EnvOK ns' cenv → Off ns' cenv A W → n₁ 86 → (∀ L ∈ FS A, n₁ L ∨ L = cenv.locals) → (∀ b ∈ W, ¬ n₁ b) → Tk c ns' cenv A tgt I W n₁ G bd xs D)
    (hts : ∀ cenv, EnvK ns' (relN nm scope.names) cenv → CTs c d ns' cenv ifs T) (hel : ∀ cenv, EnvK ns' (relN nm scope.names) cenv → CE c d ns' cenv elt F)
    (hout : compP bd T F xs (compΓ caps Γ) = some out) (hsz : xs.length ≤ sizeLine)
    (hs : ∀ x, foldedSetIterable iter env x = pure x)
    (hfin : ∀ s' (G' : PH c.w) D C vs m f, Step A (Bel s) G s G' s' → s'.heap.PlainList D vs.toArray → G' D = none → ¬ Bel s D → HoldsL G' out vs → s'.heap.Ns C m → G' C = none → ¬ Bel s C → C ≠ D → compPost c.M A E use Q (.ref D) C (.ok f) s') :
    wpAny c.M A (comprehension (.ListComp elt [⟨tgt, iter, ifs, 0⟩] scope pos) scope env p0 (newList []) false (eval iter env) use) Q E s := by
  refine comp_gen (Src := Src) (add := "list.append") (Acc := fun G ys o => ∃ vs n, o = lobj vs n ∧ HoldsL G ys vs) K C0 hkind rm SV hI hlive hT hts hel hout hsz hs rfl rfl (fun h => wpAny_newList h) compLoop_any codeAny_compStart_list (fun _ => ⟨[], 0, rfl, rfl⟩) (fun k h => ?_) (fun ho ha hy _ hl h => ?_)
    fun s' G' D C o m f st hp hGD hbD ha => ?_
  · obtain ⟨vs, n, e, hh⟩ := h
    exact ⟨vs, n, e, hh.mono k⟩
  · obtain ⟨vs, n, rfl, hh⟩ := ha
    refine wpAny_list_append_plain ⟨n, ho⟩ (fun h₇ hl₇ hs₇ => ?_) (by rw [List.size_toArray, hh.length]; exact hl)
    obtain ⟨n', e⟩ := hl₇
    exact h h₇ _ _ hs₇ e ⟨vs ++ [_], n', by simp [lobj], hh.append (cons_of hy rfl)⟩ (Nat.le_refl _)
  · obtain ⟨vs, n, rfl, hh⟩ := ha
    exact hfin s' G' D C vs m f st ⟨n, hp⟩ hGD hbD hh
end
end

section
section
variable {c : Ctx0} {d : Nat} {ns : List (Str × NK)} {env : Env} {Γ : List Slot} {nm : List (Str × NameKind)}

noncomputable def compF (bd : PV → List Slot → List Slot) (caps : List (Option Nat)) (L : SF (List PV)) (T : SF Bool) (F : SF PV) : SF PV := fun Γ => (L Γ).bind fun xs => if xs.length ≤ sizeLine then (compP bd T F xs (compΓ caps Γ)).map .list else none

theorem fin_none {A} {G : PH c.w} {s} {G' : PH c.w} {s' D C vs m out} {E : Value → Shared → Prop} (g' : GS c A G' s') (h86 : Bel s 86) (st : Step A (Bel s) G s G' s') (hp : s'.heap.PlainList D vs.toArray) (hGD : G' D = none) (hbD : ¬ Bel s D) (hv : HoldsL G' out vs)
    (hm : s'.heap.Ns C m) (hGC : G' C = none) (hbC : ¬ Bel s C) (hCD : C ≠ D) {f} : compPost c.M A E none (XP A G s (.list out)) (.ref D) C (.ok f) s' := by
  refine ⟨m, hm, fun h' hs' => ?_⟩
  obtain ⟨n, e⟩ := hp
  have hk : ∀ b o, b ∉ [C] → s'.heap.get? b = some o → h'.get? b = some o := fun b o hb e => hs'.extBut b o (fun q => hb (by simp [q])) e
  have x₁ := st.trans (Step.touch g' (W := [C]) (n₁ := Bel s) (fun b hb => by rw [List.mem_singleton] at hb; subst hb; exact hbC) (fun q => hbC (by rw [List.mem_singleton] at q; exact q ▸ h86)) (by simpa using hGC) (tk := s'.toks) (Nat.le_refl _) hk)
  have eD : h'.get? D = some (lobj vs n) := hk D _ (by simpa using Ne.symm hCD) e
  exact ⟨pin G' D (lobj vs n), ⟨D, vs, n, rfl, pin_self, hv.mono (pin_keep hGD)⟩, x₁.pinL eD hGD hbD⟩

theorem gs86 {A G s} (g : GS c A G s) : Bel s 86 := let ⟨_, h1, _⟩ := g.tab; ⟨_, h1⟩

theorem CE_comp1 (K : EnvK ns nm env) {ns' : List (Str × NK)} {caps : List (Option Nat)} {scope : Scope} {x : Str} {np pos : Pos} {iter elt : PySem.Expr} {ifs : List PySem.Expr} {j : Nat} {k : NK} {L : SF (List PV)} {T : SF Bool} {F : SF PV}
    (C0 : compOk ns ns' scope.names caps = true) (hkind : scope.kind = .function) (hj : findN ns' x 0 = some (j, k)) (hk : (k != .cap) = true) (hL : CI1 c d ns env iter L)
    (hts : ∀ cenv, EnvK ns' (relN nm scope.names) cenv → CTs c d ns' cenv ifs T) (hel : ∀ cenv, EnvK ns' (relN nm scope.names) cenv → CE c d ns' cenv elt F)
    (hs : ∀ x, foldedSetIterable iter env x = pure x) : CE c d ns env (.ListComp elt [⟨.Name x np, iter, ifs, 0⟩] scope pos) (compF (bd1 j) caps L T F) := ⟨fun Γ v hv => ⟨fun A n₀ G s E rm S => by
  obtain ⟨xs, hxs, hv⟩ := bind_some hv
  split at hv
  · rename_i hsz
    obtain ⟨out, hout, e⟩ := Option.map_eq_some_iff.mp hv
    subst e
    obtain ⟨V, SV⟩ := S
    have hk' : k ≠ .cap := by simpa using hk
    rw [eval_ListComp]
    exact comp_core (Src := Src1) (use := none) K (CompOK.of C0) hkind rm SV ((hL.run Γ xs hxs).run A n₀ G s E rm ⟨V, SV⟩) (fun S => S.live) (fun S hh hself ok' O h86 hf hW => S.tk ok' (findN_get hj) hk' O h86 hf hW) hts hel hout hsz hs
      fun s' G' D C vs m f st hp hGD hbD hv hm hGC hbC hCD => fin_none (SV.step st).gs (gs86 SV.gs) st hp hGD hbD hv hm hGC hbC hCD
  · cases hv⟩⟩
theorem CE_comp2 (K : EnvK ns nm env) {ns' : List (Str × NK)} {caps : List (Option Nat)} {scope : Scope} {x y : Str} {p1 p2 tp pos : Pos} {kk : Nat} {iter elt : PySem.Expr} {ifs : List PySem.Expr} {j l : Nat} {k k' : NK} {L : SF (List PV)} {T : SF Bool} {F : SF PV}
    (C0 : compOk ns ns' scope.names caps = true) (hkind : scope.kind = .function) (hj : findN ns' x 0 = some (j, k)) (hk : (k != .cap) = true) (hl : findN ns' y 0 = some (l, k')) (hk' : (k' != .cap) = true) (hL : CI2 c d ns env iter L)
    (hts : ∀ cenv, EnvK ns' (relN nm scope.names) cenv → CTs c d ns' cenv ifs T) (hel : ∀ cenv, EnvK ns' (relN nm scope.names) cenv → CE c d ns' cenv elt F)
    (hs : ∀ x, foldedSetIterable iter env x = pure x) : CE c d ns env (.ListComp elt [⟨.Tuple [.Name x p1, .Name y p2] kk tp, iter, ifs, 0⟩] scope pos) (compF (bd2 j l) caps L T F) := ⟨fun Γ v hv => ⟨fun A n₀ G s E rm S => by
  obtain ⟨xs, hxs, hv⟩ := bind_some hv
  split at hv
  · rename_i hsz
    obtain ⟨out, hout, e⟩ := Option.map_eq_some_iff.mp hv
    subst e
    obtain ⟨V, SV⟩ := S
    have hk1 : k ≠ .cap := by simpa using hk
    have hk2 : k' ≠ .cap := by simpa using hk'
    rw [eval_ListComp]
    exact comp_core (Src := Src2) (use := none) K (CompOK.of C0) hkind rm SV ((hL.run Γ xs hxs).run A n₀ G s E rm ⟨V, SV⟩) (fun S => S.live) (fun S hh hself ok' O h86 hf hW => S.tk ok' (findN_get hj) hk1 (findN_get hl) hk2 hh hself O h86 hf hW) hts hel hout hsz hs
      fun s' G' D C vs m f st hp hGD hbD hv hm hGC hbC hCD => fin_none (SV.step st).gs (gs86 SV.gs) st hp hGD hbD hv hm hGC hbC hCD
  · cases hv⟩⟩

noncomputable def swapsP (nm : List (Str × NameKind)) (t : Str) (np p : Pos) (names : List (Str × NameKind)) : Bool :=
  nm.lookup t == some .local && np.line == p.line && !(names.any fun x => x.1 == t && (x.2 == .local || x.2 == .cell))
theorem swaps_eq (K : EnvK ns nm env) {elt gens scope p t np line} : swapsWith (.ListComp elt gens scope p) (some (.Name t np)) line env = pure (swapsP nm t np p scope.names) := by
  unfold swapsWith
  show (pure _ : Sem Bool) = _
  rw [K.block, K.kinds t]
  rfl

theorem fin_some (ok : EnvOK ns env) {i : Nat} {y : Str} {k : NK} {py : Pos} (hi : ns[i]? = some (y, k)) (hk : k ≠ .cap) {A n₀} {G : PH c.w} {s V} {G' : PH c.w} {s' D C vs m out} {E : Value → Shared → Prop} (SV : StV c ns env Γ A n₀ G s V) (st : Step A (Bel s) G s G' s') (hp : s'.heap.PlainList D vs.toArray) (hGD : G' D = none) (hbD : ¬ Bel s D) (hv : HoldsL G' out vs)
    (hm : s'.heap.Ns C m) (hGC : G' C = none) (hbC : ¬ Bel s C) (hCD : C ≠ D) {f} : compPost c.M A E (some (assign (.Name y py) env)) (fun _ s' => ∃ G' : PH c.w, St c ns env ((clr i Γ).set i (.val (.list out))) A n₀ G' s' ∧ Step A n₀ G s G' s') (.ref D) C (.ok f) s' := by
  obtain ⟨n, e⟩ := hp
  obtain ⟨oC, eC, _⟩ := ns_obj0 hm
  have x₁ := st.pinL e hGD hbD
  have W1 : ∀ b ∈ [C], ¬ Bel s b ∧ Bel s' b := fun b hb => by rw [List.mem_singleton] at hb; subst hb; exact ⟨hbC, ⟨oC, eC⟩⟩
  have S₁ := SV.grow x₁ (W := [C]) W1
  have O := SV.off (W := [C]) fun b hb => (W1 b hb).1
  refine wpAny_assign_Name (wm (store_val ok hi hk ⟨V, S₁⟩ (V := .ref D) (v := .list out) ⟨D, vs, n, rfl, pin_self, hv.mono (pin_keep hGD)⟩) (fun _ s₂ hpt => ?_))
  obtain ⟨x₂, V₂, S₂⟩ := hpt
  have nC : pin G' D (lobj vs n) C = none := by unfold pin; rw [if_neg hCD]; exact hGC
  refine ⟨m, hm.at' fun o e => x₂.keep C o (.inr (by simp)) e (fun q => O.t86 (by simp [q])) (fun q => O.fs C q (by simp)), fun h' hs' => ?_⟩
  have hk : ∀ b o, b ∉ [C] → s₂.heap.get? b = some o → h'.get? b = some o := fun b o hb e => hs'.extBut b o (fun q => hb (by simp [q])) e
  have hnC : ∀ b ∈ [C], ¬ n₀ b := fun b hb q => by rw [List.mem_singleton] at hb; subst hb; exact hbC (SV.bel b q)
  refine ⟨_, ⟨V₂, S₂.end_ O (by simpa using nC) SV.base SV.fsl hnC (tk := s₂.toks) (Nat.le_refl _) hk⟩, ((x₁.up fun b hb => SV.bel b hb).trans (x₂.up fun b hb => .inl hb)).trans (Step.touch S₂.gs (W := [C]) hnC O.t86 (by simpa using nC) (tk := s₂.toks) (Nat.le_refl _) hk)⟩

theorem C1_asgcomp1 (K : EnvK ns nm env) {ns' : List (Str × NK)} {caps : List (Option Nat)} {scope : Scope} {x t : Str} {np pos tp sp : Pos} {iter elt : PySem.Expr} {ifs : List PySem.Expr} {i j : Nat} {k ki : NK} {L : SF (List PV)} {T : SF Bool} {F : SF PV}
    (hi : findN ns t 0 = some (i, ki)) (hki : (ki != .cap) = true) (hsw : swapsP nm t tp pos scope.names = true)
    (C0 : compOk ns ns' scope.names caps = true) (hkind : scope.kind = .function) (hj : findN ns' x 0 = some (j, k)) (hk : (k != .cap) = true) (hL : CI1 c d ns env iter L)
    (hts : ∀ cenv, EnvK ns' (relN nm scope.names) cenv → CTs c d ns' cenv ifs T) (hel : ∀ cenv, EnvK ns' (relN nm scope.names) cenv → CE c d ns' cenv elt F)
    (hs : ∀ x, foldedSetIterable iter env x = pure x) : C1 c d ns env (.Assign [.Name t tp] (.ListComp elt [⟨.Name x np, iter, ifs, 0⟩] scope pos) sp) (fun Γ => (compF (bd1 j) caps L T F Γ).map fun v => .next ((clr i Γ).set i (.val v))) := ⟨fun Γ o hv => ⟨fun A n₀ G s E rm S => by
  obtain ⟨v, hv1, e⟩ := Option.map_eq_some_iff.mp hv
  subst e
  clear hv
  obtain ⟨xs, hxs, hv⟩ := bind_some hv1
  split at hv
  · rename_i hsz
    obtain ⟨out, hout, e⟩ := Option.map_eq_some_iff.mp hv
    subst e
    obtain ⟨V, SV⟩ := S
    have hk' : k ≠ .cap := by simpa using hk
    have hki' : ki ≠ .cap := by simpa using hki
    rw [exec_Assign_Name_used _ _ _ _ ((swaps_eq K).trans (by rw [hsw]))]
    refine wbs (wpAny_bind ?_)
    show wpAny _ A (do let _ ← comprehension (.ListComp elt [⟨.Name x np, iter, ifs, 0⟩] scope pos) scope env _ (newList []) false (eval iter env) (some (assign (.Name t tp) env))) _ _ s
    refine wpAny_bind (wm (Q := fun _ s' => ∃ G' : PH c.w, St c ns env ((clr i Γ).set i (.val (.list out))) A n₀ G' s' ∧ Step A n₀ G s G' s') (comp_core (Src := Src1) K (CompOK.of C0) hkind rm SV ((hL.run Γ xs hxs).run A n₀ G s E rm ⟨V, SV⟩) (fun S => S.live) (fun S hh hself ok' O h86 hf hW => S.tk ok' (findN_get hj) hk' O h86 hf hW) hts hel hout hsz hs
      fun s' G' D C vs m f st hp hGD hbD hv hm hGC hbC hCD => fin_some K.ok (findN_get hi) hki' SV st hp hGD hbD hv hm hGC hbC hCD) (fun _ s' ⟨G', S', st⟩ => wpAny_pure (wpAny_pure ⟨G', ⟨rfl, S'⟩, st⟩)))
  · cases hv⟩⟩

theorem CS_nil : CS c d ns env [] (fun Γ => some (.next Γ)) := ⟨fun _ _ h => by cases h; exact SXs_nil⟩
noncomputable def seqF (F G : SF Out) : SF Out := fun Γ => (F Γ).bind fun o => match o with
  | .next Γ' => G Γ'
  | .brk Γ' => some (.brk Γ')
  | .ret v => some (.ret v)
theorem CS_cons {st sts F G} (h₁ : C1 c d ns env st F) (h₂ : CS c d ns env sts G) : CS c d ns env (st :: sts) (seqF F G) := ⟨fun Γ o hv => by
  obtain ⟨o', ho, hv⟩ := bind_some hv
  cases o' with
  | next Γ' => exact SXs_cons (h₁.run Γ _ ho) (h₂.run Γ' _ hv)
  | brk Γ' => cases hv; exact SXs_brk (h₁.run Γ _ ho)
  | ret v => cases hv; exact SXs_ret (h₁.run Γ _ ho)⟩
theorem C1_ret {e pos F} (h : CE c d ns env e F) : C1 c d ns env (.Return (some e) pos) (fun Γ => (F Γ).map .ret) := ⟨fun Γ o hv => by
  obtain ⟨v, hv1, e⟩ := Option.map_eq_some_iff.mp hv
  subst e; exact SX_ret (h.run Γ v hv1)⟩
theorem C1_brk {pos} : C1 c d ns env (.Break pos) (fun Γ => some (.brk Γ)) := ⟨fun _ _ h => by cases h; exact SX_brk⟩
theorem C1_if {t b₁ b₂ pos T F G} (h : CB c d ns env t T) (h₁ : CS c d ns env b₁ F) (h₂ : CS c d ns env b₂ G) : C1 c d ns env (.If t b₁ b₂ pos) (iteF T F G) := ⟨fun Γ o hv => by
  obtain ⟨b, hb, hv⟩ := bind_some hv
  cases b with
  | true => simp only [if_true] at hv; exact SX_if (h.run Γ _ hb) (fun _ => h₁.run Γ _ hv) (fun e => nomatch e)
  | false => simp only [Bool.false_eq_true, if_false] at hv; exact SX_if (h.run Γ _ hb) (fun e => nomatch e) (fun _ => h₂.run Γ _ hv)⟩
noncomputable def asg (i : Nat) (F : SF PV) : SF Out := fun Γ => (F Γ).map fun v => .next ((clr i Γ).set i (.val v))
theorem C1_assign (ok : EnvOK ns env) {x : Str} {np pos : Pos} {e : PySem.Expr} {F} {i : Nat} {k : NK} (hi : findN ns x 0 = some (i, k)) (hk : (k != .cap) = true) (h : CE c d ns env e F)
    (hs : swapsWith e (some (.Name x np)) pos.line env = pure false) : C1 c d ns env (.Assign [.Name x np] e pos) (asg i F) := ⟨fun Γ o hv => by
  obtain ⟨v, hv1, e⟩ := Option.map_eq_some_iff.mp hv
  subst e; exact SX_assign ok i (findN_get hi) (by simpa using hk) (h.run Γ v hv1) hs⟩

noncomputable def whileP (T : SF Bool) (B : SF Out) : Nat → SF Out
  | 0, _ => none
  | n + 1, Γ => (T Γ).bind fun b => if b then (B Γ).bind fun o => (match o with
      | .next Γ' => whileP T B n Γ'
      | .brk Γ' => some (.next Γ')
      | .ret v => some (.ret v)) else some (.next Γ)
theorem while_core {t body T B} (hT : CB c d ns env t T) (hB : CS c d ns env body B) {A : Around} {n₀ : Addr → Prop} (rm : Rm d A) {Γ : List Slot} {o : Out} {N : Nat} (ho : whileP T B N Γ = some o) {G : PH c.w} {s : Shared} (hS : St c ns env Γ A n₀ G s) :
    codeAny c.M A (.whileLoop t body [] env) (fun r s' => match r with | .ok f => SP c ns env A n₀ G s o f s' | .error _ => False) s := by
  refine codeAny_whileLoop (fun k s' => ∃ (Γ' : List Slot) (G' : PH c.w), St c ns env Γ' A n₀ G' s' ∧ Step A n₀ G s G' s' ∧ whileP T B k Γ' = some o) ?_ N ⟨Γ, G, hS, Step.refl hS.gs, ho⟩
  rintro k s' ⟨Γ', G', S', st, hF⟩
  cases k with
  | zero => cases hF
  | succ k =>
    obtain ⟨b, hb, hF⟩ := bind_some hF
    refine wm ((hT.run Γ' b hb).run A n₀ G' s' _ rm S') (fun b' s₁ hpt => ?_)
    obtain ⟨G₁, e, x₁⟩ := hpt
    subst e
    have S₁ := S'.step x₁
    have st₁ := st.trans (x₁.up S'.n0)
    cases b' with
    | false =>
      simp only [Bool.false_eq_true, if_false] at hF ⊢
      cases hF
      exact wpAny_execs_nil ⟨G₁, ⟨rfl, S₁⟩, st₁⟩
    | true =>
      simp only [if_true] at hF ⊢
      obtain ⟨out, hout, hF⟩ := bind_some hF
      refine wm ((hB.run Γ' out hout).run A n₀ G₁ s₁ _ rm S₁) (fun fl s₂ hpt => ?_)
      obtain ⟨G₂, ho₂, x₂⟩ := hpt
      cases out with
      | next Γ'' => obtain ⟨e, S₂⟩ := ho₂; subst e; exact ⟨k, Nat.lt_succ_self _, Γ'', G₂, S₂, st₁.trans x₂, hF⟩
      | brk Γ'' => obtain ⟨e, S₂⟩ := ho₂; subst e; cases hF; exact ⟨G₂, ⟨rfl, S₂⟩, st₁.trans x₂⟩
      | ret v => obtain ⟨V, e, hv⟩ := ho₂; subst e; cases hF; exact ⟨G₂, ⟨V, rfl, hv⟩, st₁.trans x₂⟩
theorem C1_while (N : Nat) {t body pos T B} (hT : CB c d ns env t T) (hB : CS c d ns env body B) : C1 c d ns env (.While t body [] pos) (whileP T B N) := ⟨fun Γ o ho => ⟨fun A n₀ G s E rm S => by
  refine wpAny_While (codeAny_mono (while_core hT hB rm ho S) fun r s' h => ?_)
  cases r with
  | ok f => exact h
  | error e => exact h.elim⟩⟩
end
end

section
theorem ifsome {α : Type _} {p : Prop} [Decidable p] {a b : α} (h : (if p then some a else none) = some b) : p ∧ a = b := by
  by_cases hp : p
  · rw [if_pos hp] at h; exact ⟨hp, Option.some.inj h⟩
  · rw [if_neg hp] at h; exact nsome h
section
variable {α : Type} {P : α → Prop} {a b c d e f g : α} {l : List α}
theorem all1 (h : P a) (hl : ∀ x ∈ l, P x) : ∀ x ∈ a :: l, P x := List.forall_mem_cons.mpr ⟨h, hl⟩
theorem all1s (h : P a) : ∀ x ∈ [a], P x := all1 h fun _ h => nomatch h
theorem all2 (h1 : P a) (h2 : P b) : ∀ x ∈ [a, b], P x := all1 h1 (all1 h2 fun _ h => nomatch h)
theorem all3 (h1 : P a) (h2 : P b) (h3 : P c) : ∀ x ∈ [a, b, c], P x := all1 h1 (all2 h2 h3)
theorem all4 (h1 : P a) (h2 : P b) (h3 : P c) (h4 : P d) : ∀ x ∈ [a, b, c, d], P x := all1 h1 (all3 h2 h3 h4)
theorem all5 (h1 : P a) (h2 : P b) (h3 : P c) (h4 : P d) (h5 : P e) : ∀ x ∈ [a, b, c, d, e], P x := all1 h1 (all4 h2 h3 h4 h5)
theorem all7 (h1 : P a) (h2 : P b) (h3 : P c) (h4 : P d) (h5 : P e) (h6 : P f) (h7 : P g) : ∀ x ∈ [a, b, c, d, e, f, g], P x := all1 h1 (all1 h2 (all5 h3 h4 h5 h6 h7))
theorem mem0 : a ∈ a :: l := List.mem_cons_self
theorem mem1 : a ∈ b :: a :: l := List.mem_cons_of_mem _ mem0
theorem mem2 : a ∈ b :: c :: a :: l := List.mem_cons_of_mem _ mem1
theorem mem3 : a ∈ b :: c :: d :: a :: l := List.mem_cons_of_mem _ mem2
theorem mem4 : a ∈ b :: c :: d :: e :: a :: l := List.mem_cons_of_mem _ mem3
end

section
variable {c : Ctx0} {d : Nat} {ns : List (Str × NK)} {env : Env} {Γ : List Slot} {nm : List (Str × NameKind)}

noncomputable def itemsP : PV → Option (List PV)
  | .list xs => some xs
  | .tuple xs => some xs
  | .str x => some (x.cps.toList.map fun n => .str ⟨#[n]⟩)
  | .dict es => if es.length < sizeLine then some (es.map fun e => .str e.1) else none
  | _ => none

theorem HoldsL.place {w : World} {G : PH w} {xs : List PV} {vs : List Value} (h : HoldsL G xs vs) {i : Nat} {v : Value} {x : PV} (hv : vs[i]? = some v) (hx : xs[i]? = some x) : Holds G x v := by
  obtain ⟨V, e, hh⟩ := h.get i hx
  rw [hv] at e; cases e; exact hh

theorem HoldsD.length {w : World} {G : PH w} : ∀ {es : List (Str × PV)} {kvs : List (Str × Value)}, HoldsD G es kvs → kvs.length = es.length
  | [], _, h => by rw [show _ = [] from h]; rfl
  | (_, _) :: _, _, h => by obtain ⟨v, r, rfl, _, h2⟩ := h; simp [HoldsD.length h2]
theorem HoldsD.keys {w : World} {G : PH w} : ∀ {es : List (Str × PV)} {kvs : List (Str × Value)}, HoldsD G es kvs → kvs.map (·.1) = es.map (·.1)
  | [], _, h => by rw [show _ = [] from h]; rfl
  | (_, _) :: _, _, h => by obtain ⟨v, r, rfl, _, h2⟩ := h; simp [HoldsD.keys h2]

theorem DictO.at_ {w : World} {o : Obj} {kvs} (h : DictO w o kvs) {hp : Heap} {a : Addr} (e : hp.get? a = some o) : ∃ ep, hp.DictAt (strKind Pw w) a kvs ep := by
  obtain ⟨es, ep, h1, h2, h3, h4, h5⟩ := h
  exact ⟨ep, o, es, e, h1, h2, h3, h4, h5⟩

theorem Step.push1 {A : Around} {G : Addr → Option Obj} {s : Shared} (g : GS c A G s) (o : Obj) : Step A (Bel s) G s G { s with heap := s.heap.push o } :=
  Step.fresh g (tk := s.toks) (Nat.le_refl _) fun _ _ e => Heap.get?_push_of_some _ e
theorem fresh_size {s : Shared} : ¬ Bel s s.heap.objs.size := fun ⟨_, e⟩ => Nat.lt_irrefl _ (Heap.lt_size e)
theorem none_size {A G s} (g : GS c A G s) : G s.heap.objs.size = none := by
  cases e : G s.heap.objs.size with
  | none => rfl
  | some o => exact absurd (Heap.lt_size (g.sub _ _ e)) (Nat.lt_irrefl _)

theorem sys_ne {a : Addr} (h : 86 < a) : (a == sysModules) = false := by
  rw [beq_eq_false_iff_ne]; rintro rfl; exact absurd h (by decide)
theorem str_is {w : World} {G : PH w} {k : Str} {v : Value} (h : (strKind Pw w).is k v = true) : Holds G (.str k) v := by
  obtain ⟨t, e⟩ := Value.isStrOf_shape h
  exact ⟨t, e⟩

theorem iter_val {A : Around} {G : PH c.w} {s : Shared} {v : PV} {V : Value} {xs : List PV} {E : Value → Shared → Prop} (hh : A.handled = none) (g : GS c A G s) (hv : Holds G v V) (hx : itemsP v = some xs) (hsys : 86 < s.heap.objs.size) :
    wpAny c.M A (pyIter V) (XI Src1 c A G s xs) E s := by
  have key : ∀ (o : Obj) (D : Nat → Heap → Prop), Src1 c A G s.heap.objs.size [s.heap.objs.size] xs D → D 0 (s.heap.push o) →
      (∀ i (s' : Shared) (Q : Value → Shared → Prop) (E : Value → Shared → Prop), D i s'.heap → Q (.ref s.heap.objs.size) s' → wpAny c.M A (pyIter (.ref s.heap.objs.size)) Q E s') → XI Src1 c A G s xs (.ref s.heap.objs.size) { s with heap := s.heap.push o } := fun o D S hD hs =>
    ⟨G, _, _, D, rfl, S, hD, all1s ⟨fresh_size, none_size g⟩, hs, Step.push1 g o⟩
  cases v with
  | list ys =>
    cases hx
    obtain ⟨a, vs, n, rfl, ga, hl⟩ := hv
    have ha := g.sub _ _ ga
    have L : s.heap.IsList a vs.toArray := ⟨_, ha, rfl, n, rfl⟩
    refine wpAny_pyIter_list L ?_
    have ne : a ≠ s.heap.objs.size := Nat.ne_of_lt (Heap.lt_size ha)
    have W := Walks.list (prog := Pw) (w := c.w) hh s.heap.objs.size a ne vs.toArray
    rw [show vs.toArray.size = xs.length by simpa using hl.length] at W
    exact key _ _ ⟨⟨_, _, _, W, fun i v x hp hx => hl.place (by simpa using hp) hx, all1s mem0, all2 (.inl mem0) (.inr ⟨_, ga⟩)⟩, fun i h hD => hD.1.elim fun o ho => all1s ⟨o, ho.1⟩⟩ ⟨⟨_, Heap.get?_push_size _ rfl, rfl, rfl⟩, L.push _⟩ W.self
  | tuple ys =>
    cases hx
    obtain ⟨a, vs, n, rfl, ga, hl⟩ := hv
    have ha := g.sub _ _ ga
    have L : s.heap.IsTuple a vs.toArray := ⟨_, ha, rfl, n, rfl⟩
    refine wpAny_pyIter_tuple L ?_
    have ne : a ≠ s.heap.objs.size := Nat.ne_of_lt (Heap.lt_size ha)
    have W := Walks.tuple (prog := Pw) (w := c.w) hh s.heap.objs.size a ne vs.toArray
    rw [show vs.toArray.size = xs.length by simpa using hl.length] at W
    exact key _ _ ⟨⟨_, _, _, W, fun i v x hp hx => hl.place (by simpa using hp) hx, all1s mem0, all2 (.inl mem0) (.inr ⟨_, ga⟩)⟩, fun i h hD => hD.1.elim fun o ho => all1s ⟨o, ho.1⟩⟩ ⟨⟨_, Heap.get?_push_size _ rfl, rfl, rfl⟩, L.push _⟩ W.self
  | str x =>
    cases hx
    obtain ⟨t, rfl⟩ := hv
    have len : (x.cps.toList.map fun n => PV.str ⟨#[n]⟩).length = x.cps.size := by simp
    have its : ∀ (i : Nat) v y, SignAt x i v → (x.cps.toList.map fun n => PV.str ⟨#[n]⟩)[i]? = some y → Holds G y v := by
      rintro i v y ⟨cc, u, e, rfl⟩ h
      rw [List.getElem?_map, Array.getElem?_toList, e] at h
      cases h
      exact ⟨u, rfl⟩
    cases ha : x.cps.all (· < 128)
    · have W := Walks.strWide (prog := Pw) (w := c.w) hh s.heap.objs.size x t
      rw [← len] at W
      exact wpAny_pyIter_wide ha (key _ _ ⟨⟨_, _, _, W, its, all1s mem0, fun b hb => .inl hb⟩, fun i h hD => hD.elim fun o ho => all1s ⟨o, ho.1⟩⟩ ⟨_, Heap.get?_push_size _ rfl, rfl, rfl⟩ W.self)
    · have W := Walks.strAscii (prog := Pw) (w := c.w) hh s.heap.objs.size x t
      rw [← len] at W
      exact wpAny_pyIter_ascii ha (key _ _ ⟨⟨_, _, _, W, its, all1s mem0, fun b hb => .inl hb⟩, fun i h hD => hD.elim fun o ho => all1s ⟨o, ho.1⟩⟩ ⟨_, Heap.get?_push_size _ rfl, rfl, rfl⟩ W.self)
  | dict es =>
    simp only [itemsP] at hx
    split at hx
    · cases hx
      obtain ⟨a, o, kvs, rfl, ga, ⟨h86, hd⟩, hl⟩ := hv
      have ha := g.sub _ _ ga
      obtain ⟨ep, L⟩ := hd.at_ ha
      have ne : a ≠ s.heap.objs.size := Nat.ne_of_lt (Heap.lt_size ha)
      have nsys : (a == sysModules) = false := sys_ne h86
      refine wpAny_pyIter_dict nsys L ?_
      have W := Walks.dictKeys (prog := Pw) (w := c.w) (knd := strKind Pw c.w) hh s.heap.objs.size a ne kvs ep
      have len : kvs.length = (es.map fun e => PV.str e.1).length := by rw [List.length_map, hl.length]
      have W' := W
      rw [len] at W'
      refine key _ (fun i h => h.IsKeyIter s.heap.objs.size a i (es.map fun e => PV.str e.1).length ep ∧ h.DictAt (strKind Pw c.w) a kvs ep) ⟨⟨_, _, _, W', ?_, all1s mem0, all2 (.inl mem0) (.inr ⟨_, ga⟩)⟩, fun i h hD => hD.1.elim fun o ho => all1s ⟨o, ho.1⟩⟩ ⟨⟨_, Heap.get?_push_size _ rfl, rfl, by rw [← len]; rfl⟩, L.keep fun b o e => Heap.get?_push_of_some _ e⟩ W'.self
      · rintro i v x ⟨k, y, e1, e2⟩ hx
        have e3 : (kvs.map (·.1))[i]? = some k := by rw [List.getElem?_map, e1]; rfl
        rw [hl.keys] at e3
        rw [List.getElem?_map] at e3 hx
        cases e4 : es[i]? with
        | none => rw [e4] at e3; cases e3
        | some p =>
          rw [e4] at e3 hx
          cases e3; cases hx
          exact str_is e2
    · exact nsome hx
  | _ => exact nsome hx

theorem CI_val {e F} (h : CE c d ns env e F) : CI1 c d ns env e (fun Γ => (F Γ).bind itemsP) := ⟨fun Γ xs hv => ⟨fun A n₀ G s E rm S => by
  obtain ⟨v, hv, hx⟩ := bind_some hv
  refine wm ((h.run Γ v hv).run A n₀ G s E rm S) (fun V s₁ ⟨G₁, hh, x₁⟩ => ?_)
  have S₁ := S.step x₁
  refine wm (iter_val rm.handled S₁.gs hh hx S₁.big) (fun it s₂ h => ?_)
  obtain ⟨G₂, I, W, D, e, Sr, hD, hW, hs, x₂⟩ := h
  exact ⟨G₂, I, W, D, e, Sr, hD, fun b hb => ⟨fun q => (hW b hb).1 (x₁.alive q), (hW b hb).2⟩, hs, x₁.then x₂⟩⟩⟩

theorem call_core (C : Cok c) (K : EnvK ns nm env) {x : Str} {np pos : Pos} {args : List PySem.Expr} {vs : List PV} {V : Value} (hk : nm.lookup x = some .globalImplicit) (gv : GV c x V) (cal : Callee c V) (h₂ : EXL c d ns env Γ args vs)
    (hd : (x == ("__debug__" : Str)) = false)
    (he : eval (.Call (.Name x np) args [] pos) env = (do callWith pos (← eval (.Name x np) env) [] (backTo pos (starEach args env)) (backToKw pos (keywordEach [] env))))
    (hp : ∀ pos env, (backTo pos (starEach args env)).any (·.1) = false) {A n₀} {G : PH c.w} {s} {E : Value → Shared → Prop} {Q : Value → Shared → Prop} (rm : Rm d A) (S : St c ns env Γ A n₀ G s)
    (h : ∀ Vs s₂ (G₂ : PH c.w), HoldsL G₂ vs Vs → Step A (Bel s) G s G₂ s₂ → St c ns env Γ A n₀ G₂ s₂ → wpAny c.M A (call V Vs) Q E s₂) : wpAny c.M A (eval (.Call (.Name x np) args [] pos) env) Q E s := by
  rw [he]
  refine wb ((EX_glob (d := d) C K.ok (kind_glob K hk) gv hd).run A n₀ G s E rm S) (fun V₁ s₁ ⟨G₁, hh₁, x₁⟩ => ?_)
  have hV : V₁ = V := hh₁
  subst hV
  have S₁ := S.step x₁
  refine callWith_go cal (hp pos env) (wm (h₂.run A n₀ G₁ s₁ E pos rm S₁) (fun Vs s₂ ⟨G₂, hh₂, x₂⟩ => ?_))
  have S₂ := S₁.step x₂
  exact ⟨S₂.gs.up, h Vs s₂ G₂ hh₂ (x₁.then x₂) S₂⟩

noncomputable def rangeP (a c : Int) (n : Nat) : List PV := (List.range n).map fun i : Nat => .int (a + (i : Int) * c)
theorem iter_range {A : Around} {G : PH c.w} {s s₀ : Shared} {n : Nat} {a b cc : Int} {r : Addr} {t u v : Tok} {G₀ : PH c.w} {E : Value → Shared → Prop} (hh : A.handled = none) (g : GS c A G s) (x : Step A (Bel s₀) G₀ s₀ G s) (hr : IsRange s.heap r a b cc t u v) (hsm : Builtin.Range.small a b cc = true) (hn : Builtin.Range.rangeSize a b cc = (n : Nat)) :
    wpAny c.M A (pyIter (.ref r)) (XI Src1 c A G₀ s₀ (rangeP a cc n)) E s := by
  refine wpAny_pyIter_range hr hsm ?_
  have W := Walks.range (prog := Pw) (w := c.w) hh s.heap.objs.size a cc n
  have len : (rangeP a cc n).length = n := by simp [rangeP]
  have W' := W
  rw [show n = (rangeP a cc n).length from len.symm] at W'
  refine ⟨G, s.heap.objs.size, [s.heap.objs.size], (fun i h => IsRangeIter h s.heap.objs.size (a + (i : Nat) * cc) (((rangeP a cc n).length : Int) - (i : Nat)) cc), rfl, ⟨⟨_, _, _, W', ?_, all1s mem0, fun b hb => .inl hb⟩, fun i h hD => all1s ⟨_, hD⟩⟩, ?_, ?_, W'.self, x.then (Step.push1 g _)⟩
  · rintro i v y ⟨t, rfl⟩ hy
    unfold rangeP at hy
    rw [List.getElem?_map] at hy
    cases e : (List.range n)[i]? with
    | none => rw [e] at hy; cases hy
    | some j =>
      rw [e] at hy; cases hy
      have : j = i := by
        obtain ⟨h1, h2⟩ := List.getElem?_eq_some_iff.mp e
        simpa using h2.symm
      subst this
      exact ⟨t, rfl⟩
  · have e := Heap.get?_push_size s.heap (o := { cls := .type "range_iterator", data := .fields #[rawInt a, rawInt (Builtin.Range.rangeSize a b cc), rawInt cc] }) rfl
    show (s.heap.push _).get? _ = _
    rw [hn] at e ⊢
    rw [e, len]
    simp
  · exact all1s ⟨fun q => fresh_size (x.alive q), none_size g⟩
noncomputable def range1 (n : Int) : Option (List PV) := if Builtin.Range.small 0 n 1 = true ∧ Builtin.Range.rangeSize 0 n 1 = (n.toNat : Int) then some (rangeP 0 1 n.toNat) else none
noncomputable def range3 (a b cc : Int) : Option (List PV) := if cc ≠ 0 ∧ Builtin.divisionGoesByPylong (b - a) cc = false ∧ Builtin.Range.small a b cc = true ∧ Builtin.Range.rangeSize a b cc = ((Builtin.Range.rangeSize a b cc).toNat : Int) then some (rangeP a cc (Builtin.Range.rangeSize a b cc).toNat) else none
noncomputable def rangeArgs (args : List PV) : Option (List PV) := match args1 args with
  | some a => (aInt a).bind range1
  | none => (args3 args).bind fun p => (aInt p.1).bind fun a => (aInt p.2.1).bind fun b => (aInt p.2.2).bind fun cc => range3 a b cc
theorem CI_range (C : Cok c) (K : EnvK ns nm env) {x : Str} {np pos : Pos} {args : List PySem.Expr} {F : SF (List PV)} (hk : nm.lookup x = some .globalImplicit) (gv : GV c x (.type "range")) (h₂ : CL c d ns env args F)
    (hd : (x == ("__debug__" : Str)) = false)
    (he : eval (.Call (.Name x np) args [] pos) env = (do callWith pos (← eval (.Name x np) env) [] (backTo pos (starEach args env)) (backToKw pos (keywordEach [] env))))
    (hp : ∀ pos env, (backTo pos (starEach args env)).any (·.1) = false) : CI1 c d ns env (.Call (.Name x np) args [] pos) (fun Γ => (F Γ).bind rangeArgs) := ⟨fun Γ xs hv => ⟨fun A n₀ G s E rm S => by
  obtain ⟨vs, hvs, hx⟩ := bind_some hv
  refine call_core C K hk gv (.type "range") (h₂.run Γ vs hvs) hd he hp rm S fun Vs s₂ G₂ hh x₂ S₂ => ?_
  unfold rangeArgs at hx
  cases h1 : args1 vs with
  | some p =>
    rw [h1] at hx
    obtain ⟨n, hn, hx⟩ := bind_some hx
    rw [args1_eq h1, aInt_eq hn] at hh
    obtain ⟨hc, rfl⟩ := ifsome hx
    · clear hx
      obtain ⟨_, _, rfl, ⟨t, rfl⟩, rfl⟩ := hh
      refine call_range_1 ?_
      have g : Step A (Bel s₂) G₂ s₂ G₂ { s₂ with heap := s₂.heap.push { cls := .type "range", data := .fields #[.int 0 s₂.toks, .int n t, .int 1 (s₂.toks + 1)] }, toks := s₂.toks + 1 + 1 } :=
        Step.fresh S₂.gs (Nat.le_add_right _ 2) fun _ _ e => Heap.get?_push_of_some _ e
      exact iter_range rm.handled (S₂.gs.stepE g S₂.big) (x₂.then g) (Heap.get?_push_size _ rfl) hc.1 hc.2
  | none =>
    rw [h1] at hx
    obtain ⟨p, hp, hx⟩ := bind_some hx
    obtain ⟨a, ha, hx⟩ := bind_some hx
    obtain ⟨b, hb, hx⟩ := bind_some hx
    obtain ⟨cc, hcc, hx⟩ := bind_some hx
    rw [args3_eq hp, aInt_eq ha, aInt_eq hb, aInt_eq hcc] at hh
    obtain ⟨hc, rfl⟩ := ifsome hx
    · clear hx
      obtain ⟨_, _, rfl, ⟨t, rfl⟩, _, _, rfl, ⟨u, rfl⟩, _, _, rfl, ⟨v, rfl⟩, rfl⟩ := hh
      refine call_range_3 hc.1 ?_ (.inl hc.2.1)
      have g : Step A (Bel s₂) G₂ s₂ G₂ { s₂ with heap := s₂.heap.push { cls := .type "range", data := .fields #[.int a t, .int b u, .int cc v] }, toks := s₂.toks } :=
        Step.fresh S₂.gs (Nat.le_refl _) fun _ _ e => Heap.get?_push_of_some _ e
      exact iter_range rm.handled (S₂.gs.stepE g S₂.big) (x₂.then g) (Heap.get?_push_size _ rfl) hc.2.2.1 hc.2.2.2⟩⟩

theorem new_addr {A : Around} {G G₂ : PH c.w} {s s₂ : Shared} (g : GS c A G₂ s₂) (x : Step A (Bel s) G s G₂ s₂) (b : Addr) (hb : s₂.heap.objs.size ≤ b) : ¬ Bel s b ∧ G₂ b = none :=
  ⟨fun q => let ⟨_, e⟩ := x.alive q; Nat.lt_irrefl _ (Nat.lt_of_lt_of_le (Heap.lt_size e) hb), by
    cases e : G₂ b with
    | none => rfl
    | some o => exact absurd (Heap.lt_size (g.sub _ _ e)) (Nat.not_lt.mpr hb)⟩
noncomputable def enumL : Nat → List PV → List PV
  | _, [] => []
  | n, x :: xs => .tuple [.int n, x] :: enumL (n + 1) xs
theorem enumL_length : ∀ n xs, (enumL n xs).length = xs.length
  | _, [] => rfl
  | n, _ :: xs => by simp [enumL, enumL_length (n + 1) xs]
theorem enumL_get : ∀ (n : Nat) (xs : List PV) (i : Nat) (y : PV), (enumL n xs)[i]? = some y → ∃ x, xs[i]? = some x ∧ y = .tuple [.int ((n + i : Nat) : Int), x]
  | _, [], _, _, h => by simp [enumL] at h
  | n, x :: xs, 0, y, h => by simp [enumL] at h; subst h; exact ⟨x, rfl, by simp⟩
  | n, x :: xs, i + 1, y, h => by
    simp only [enumL, List.getElem?_cons_succ] at h
    obtain ⟨z, h1, h2⟩ := enumL_get (n + 1) xs i y h
    refine ⟨z, by simpa using h1, ?_⟩
    rw [h2, show n + 1 + i = n + (i + 1) by omega]
noncomputable def enumArgs (args : List PV) : Option (List PV) := (args1 args).bind fun v => (aList v).map (enumL 0)
theorem CI_enum (C : Cok c) (K : EnvK ns nm env) {x : Str} {np pos : Pos} {args : List PySem.Expr} {F : SF (List PV)} (hk : nm.lookup x = some .globalImplicit) (gv : GV c x (.type "enumerate")) (h₂ : CL c d ns env args F)
    (hd : (x == ("__debug__" : Str)) = false)
    (he : eval (.Call (.Name x np) args [] pos) env = (do callWith pos (← eval (.Name x np) env) [] (backTo pos (starEach args env)) (backToKw pos (keywordEach [] env))))
    (hp : ∀ pos env, (backTo pos (starEach args env)).any (·.1) = false) : CI2 c d ns env (.Call (.Name x np) args [] pos) (fun Γ => (F Γ).bind enumArgs) := ⟨fun Γ xs hv => ⟨fun A n₀ G s E rm S => by
  obtain ⟨vs, hvs, hx⟩ := bind_some hv
  refine call_core C K hk gv (.type "enumerate") (h₂.run Γ vs hvs) hd he hp rm S fun Vs s₂ G₂ hh x₂ S₂ => ?_
  obtain ⟨v1, hv1, hx⟩ := bind_some hx
  obtain ⟨ys, hys, rfl⟩ := Option.map_eq_some_iff.mp hx
  rw [args1_eq hv1, aList_eq hys] at hh
  · clear hx
    obtain ⟨_, _, rfl, ⟨a, ws, n, rfl, ga, hl⟩, rfl⟩ := hh
    have g := S₂.gs
    have ha := g.sub _ _ ga
    have L : s₂.heap.IsList a ws.toArray := ⟨_, ha, rfl, n, rfl⟩
    refine call_enumerate_list L fun h' he' hi' hsz hk' => ?_
    have hsz' : s₂.heap.objs.size + 1 ≠ s₂.heap.objs.size := Nat.succ_ne_self _
    have alt := Heap.lt_size ha
    have st := Step.fresh (n₁ := Bel s₂) g (tk := s₂.toks) (Nat.le_refl _) hk'
    have W := (WalksT.enumerate (prog := Pw) (w := c.w) rm.handled (s₂.heap.objs.size + 1) s₂.heap.objs.size a hsz' (Nat.ne_of_lt (Nat.lt_succ_of_lt alt)) (Nat.ne_of_lt alt) ws.toArray).toU
    rw [show ws.toArray.size = (enumL 0 ys).length by rw [enumL_length]; simpa using hl.length] at W
    refine wpAny_pyIter_enum he' ?_
    have nn := new_addr g x₂
    refine ⟨G₂, _, [s₂.heap.objs.size + 1, s₂.heap.objs.size], _, rfl, ⟨⟨_, _, _, _, W, ?_, fun _ hb => hb, ?_⟩, ?_⟩, ⟨⟨_, he'⟩, hi', L.at fun o e => hk' _ _ e⟩, ?_, W.self, x₂.then st⟩
    · rintro i vals y ⟨t, z, e1, rfl⟩ hy
      obtain ⟨p, e2, e3⟩ := enumL_get 0 ys i y hy
      rw [Nat.zero_add] at e3
      exact ⟨_, _, _, _, rfl, e3, ⟨t, rfl⟩, hl.place (by simpa using e1) e2⟩
    · exact all3 (.inl mem0) (.inl mem1) (.inr ⟨_, ga⟩)
    · rintro i h ⟨⟨old, h1⟩, ⟨o, ho, _⟩, _⟩
      exact all2 ⟨_, h1⟩ ⟨o, ho⟩
    · exact all2 (nn _ (Nat.le_succ _)) (nn _ (Nat.le_refl _))⟩⟩

noncomputable def zipL : List PV → List PV → List PV
  | x :: xs, y :: ys => .tuple [x, y] :: zipL xs ys
  | _, _ => []
theorem zipL_length : ∀ xs ys, (zipL xs ys).length = min xs.length ys.length
  | [], _ => (Nat.zero_min _).symm
  | _ :: _, [] => (Nat.min_zero _).symm
  | _ :: xs, _ :: ys => (congrArg (· + 1) (zipL_length xs ys)).trans (Nat.add_min_add_right _ _ 1).symm
theorem zipL_get : ∀ (xs ys : List PV) (i : Nat) (z : PV), (zipL xs ys)[i]? = some z → ∃ x y, xs[i]? = some x ∧ ys[i]? = some y ∧ z = .tuple [x, y]
  | [], _, _, _, h => by simp [zipL] at h
  | _ :: _, [], _, _, h => by simp [zipL] at h
  | x :: xs, y :: ys, 0, z, h => by simp [zipL] at h; exact ⟨x, y, rfl, rfl, h.symm⟩
  | x :: xs, y :: ys, i + 1, z, h => by
    simp only [zipL, List.getElem?_cons_succ] at h ⊢
    exact zipL_get xs ys i z h
noncomputable def zipArgs (args : List PV) : Option (List PV) := (args2 args).bind fun p => (aList p.1).bind fun xs => (aList p.2).map fun ys => zipL xs ys
theorem zip_apart (N a a2 : Nat) (h : a < N) (h2 : a2 < N) : ZipApart (N + 4) (N + 2) (N + 3) N (N + 1) a a2 := by
  have ap : ∀ N b : Nat, b < N → ∀ k, b ≠ N + k := fun N b h k => Nat.ne_of_lt (Nat.lt_of_lt_of_le h (Nat.le_add_right _ _))
  have e1 := ap N a h
  have e2 := ap N a2 h2
  constructor <;> first | exact e1 _ | exact e2 _ | exact e1 0 | exact e2 0 | (intro q; exact absurd (show (_ : Nat) = _ from q) (by omega))
theorem CI_zip (C : Cok c) (K : EnvK ns nm env) {x : Str} {np pos : Pos} {args : List PySem.Expr} {F : SF (List PV)} (hk : nm.lookup x = some .globalImplicit) (gv : GV c x (.type "zip")) (h₂ : CL c d ns env args F)
    (hd : (x == ("__debug__" : Str)) = false)
    (he : eval (.Call (.Name x np) args [] pos) env = (do callWith pos (← eval (.Name x np) env) [] (backTo pos (starEach args env)) (backToKw pos (keywordEach [] env))))
    (hp : ∀ pos env, (backTo pos (starEach args env)).any (·.1) = false) : CI2 c d ns env (.Call (.Name x np) args [] pos) (fun Γ => (F Γ).bind zipArgs) := ⟨fun Γ xs hv => ⟨fun A n₀ G s E rm S => by
  obtain ⟨vs, hvs, hx⟩ := bind_some hv
  refine call_core C K hk gv (.type "zip") (h₂.run Γ vs hvs) hd he hp rm S fun Vs s₂ G₂ hh x₂ S₂ => ?_
  obtain ⟨p, hp, hx⟩ := bind_some hx
  obtain ⟨ys, hys, hx⟩ := bind_some hx
  obtain ⟨zs, hzs, rfl⟩ := Option.map_eq_some_iff.mp hx
  rw [args2_eq hp, aList_eq hys, aList_eq hzs] at hh
  · clear hx
    obtain ⟨_, _, rfl, ⟨a, ws, n, rfl, ga, hl⟩, _, _, rfl, ⟨a2, ws2, n2, rfl, ga2, hl2⟩, rfl⟩ := hh
    have g := S₂.gs
    have ha := g.sub _ _ ga
    have ha2 := g.sub _ _ ga2
    have L : s₂.heap.IsList a ws.toArray := ⟨_, ha, rfl, n, rfl⟩
    have L2 : s₂.heap.IsList a2 ws2.toArray := ⟨_, ha2, rfl, n2, rfl⟩
    refine call_zip_2 L L2 fun h' z1 z2 z3 z4 z5 hsz hk' => ?_
    have alt : a < s₂.heap.objs.size := Heap.lt_size ha
    have alt2 : a2 < s₂.heap.objs.size := Heap.lt_size ha2
    have st := Step.fresh (n₁ := Bel s₂) g (tk := s₂.toks) (Nat.le_refl _) hk'
    have D := zip_apart _ a a2 alt alt2
    have W := (WalksT.zip2 (prog := Pw) (w := c.w) rm.handled _ _ _ _ _ _ _ D ws.toArray ws2.toArray).toU
    rw [show min ws.toArray.size ws2.toArray.size = (zipL ys zs).length by rw [zipL_length]; simp [hl.length, hl2.length]] at W
    refine wpAny_pyIter_zip z1 ?_
    have nn := new_addr g x₂
    refine ⟨G₂, _, [s₂.heap.objs.size + 4, s₂.heap.objs.size + 2, s₂.heap.objs.size + 3, s₂.heap.objs.size, s₂.heap.objs.size + 1], _, rfl, ⟨⟨_, _, _, _, W, ?_, ?_, ?_⟩, ?_⟩, ⟨z1, z2, ⟨_, _, z3⟩, z4, z5, L.at fun o e => hk' _ _ e, L2.at fun o e => hk' _ _ e⟩, ?_, W.self, x₂.then st⟩
    · rintro i vals y ⟨p, q, e1, e2, rfl⟩ hy
      obtain ⟨x', y', e3, e4, e5⟩ := zipL_get ys zs i y hy
      exact ⟨_, _, _, _, rfl, e5, hl.place (by simpa using e1) e3, hl2.place (by simpa using e2) e4⟩
    · exact all4 (by first | exact mem0 | exact mem1 | exact mem2 | exact mem3 | exact mem4) (by first | exact mem0 | exact mem1 | exact mem2 | exact mem3 | exact mem4) (by first | exact mem0 | exact mem1 | exact mem2 | exact mem3 | exact mem4) (by first | exact mem0 | exact mem1 | exact mem2 | exact mem3 | exact mem4)
    · refine all7 (.inl ?_) (.inl ?_) (.inl ?_) (.inl ?_) (.inl ?_) (.inr ⟨_, ga⟩) (.inr ⟨_, ga2⟩) <;> (first | exact mem0 | exact mem1 | exact mem2 | exact mem3 | exact mem4)
    · rintro i h ⟨h1, h2, ⟨_, _, h3⟩, ⟨o, ho, _⟩, ⟨o', ho', _⟩, _⟩
      exact all5 ⟨_, h1⟩ ⟨_, h2⟩ ⟨_, h3⟩ ⟨o, ho⟩ ⟨o', ho'⟩
    · exact all5 (nn _ (Nat.le_add_right _ 4)) (nn _ (Nat.le_add_right _ 2)) (nn _ (Nat.le_add_right _ 3)) (nn _ (Nat.le_refl _)) (nn _ (Nat.le_add_right _ 1))⟩⟩
end
end

section
section
variable {c : Ctx0} {d : Nat}

noncomputable def intMulOkB (a b : Int) : Bool := !(decide (Builtin.Int.intBits a > shortFactorBits) && decide (Builtin.Int.intBits b > shortFactorBits) && Builtin.Int.intTooBig (↑(Builtin.Int.intBits a) + ↑(Builtin.Int.intBits b)))
theorem intMulOk_of {a b : Int} (h : intMulOkB a b = true) : IntMulOk a b := by
  unfold IntMulOk; unfold intMulOkB at h; rw [Bool.not_eq_true'] at h; rw [h]; decide

noncomputable def addP : PV → PV → Option PV
  | .int a, .int b => some (.int (a + b))
  | .str a, .str b => if a.length + b.length ≤ sizeLine then some (.str (a ++ b)) else none
  | .list a, .list b => if a.length + b.length ≤ sizeLine then some (.list (a ++ b)) else none
  | _, _ => none
theorem BOp_add : BOp c .Add addP := ⟨fun a b v => by
  cases a with
  | int x => cases b with
    | int y =>
      intro h
      cases h; exact BO_add_int
    | _ => exact nsome
  | str x => cases b with
    | str y =>
      intro h
      obtain ⟨hs, rfl⟩ := ifsome h
      exact BO_add_str hs
    | _ => exact nsome
  | list x => cases b with
    | list y =>
      intro h
      obtain ⟨hs, rfl⟩ := ifsome h
      exact BO_add_list hs
    | _ => exact nsome
  | _ => exact nsome⟩
noncomputable def subP : PV → PV → Option PV
  | .int a, .int b => some (.int (a - b))
  | _, _ => none
theorem BOp_sub : BOp c .Sub subP := ⟨fun a b v => by
  cases a with
  | int x => cases b with
    | int y =>
      intro h
      cases h; exact BO_sub_int
    | _ => exact nsome
  | _ => exact nsome⟩
noncomputable def mulOkB (x : Str) (n : Int) : Bool :=
  !(decide (n < -(2 ^ 63 : Int)) || decide (n ≥ 2 ^ 63)) && (decide (n < 1) || (n == 1 || x.length == 0) || !(decide ((x.length : Int) > (2 ^ 63 - 1) / n))) && (decide (n < 1) || (n == 1 || x.length == 0) || !(Builtin.Str.tooLong (x.length * n.toNat)))
theorem mulOk_of {x : Str} {n : Int} (h : mulOkB x n = true) : MulOk x n := by
  unfold mulOkB at h
  simp only [Bool.and_eq_true, Bool.or_eq_true, Bool.not_eq_true', decide_eq_true_eq, decide_eq_false_iff_not] at h
  obtain ⟨⟨h1, h2⟩, h3⟩ := h
  refine ⟨h1, fun a b => ?_, fun a b => ?_⟩
  · rcases h2 with (h2 | h2) | h2
    · exact absurd h2 a
    · rw [Bool.or_eq_false_iff] at b; rcases h2 with h2 | h2
      · rw [b.1] at h2; cases h2
      · rw [b.2] at h2; cases h2
    · exact h2
  · rcases h3 with (h3 | h3) | h3
    · exact absurd h3 a
    · rw [Bool.or_eq_false_iff] at b; rcases h3 with h3 | h3
      · rw [b.1] at h3; cases h3
      · rw [b.2] at h3; cases h3
    · exact h3
noncomputable def mulP : PV → PV → Option PV
  | .int a, .int b => if intMulOkB a b = true then some (.int (a * b)) else none
  | .str x, .int n => if mulOkB x n = true then some (.str (Txt.mul x n)) else none
  | _, _ => none
theorem BOp_mul : BOp c .Mult mulP := ⟨fun a b v => by
  cases a with
  | int x => cases b with
    | int y =>
      intro h
      obtain ⟨hs, rfl⟩ := ifsome h
      exact BO_mul_int (intMulOk_of hs)
    | _ => exact nsome
  | str x => cases b with
    | int y =>
      intro h
      obtain ⟨hs, rfl⟩ := ifsome h
      exact ⟨fun A G s V₁ V₂ E _ g _ ⟨t, h₁⟩ ⟨u, h₂⟩ => by
        subst h₁ h₂; exact fixT (SB.mul (mulOk_of hs) (fun _ k => ⟨G, ⟨_, rfl⟩, (Step.refl g).any k⟩))⟩
    | _ => exact nsome
  | _ => exact nsome⟩
noncomputable def modP : PV → PV → Option PV
  | .int a, .int b => if b ≠ 0 then some (.int (a.fmod b)) else none
  | _, _ => none
theorem BOp_mod : BOp c .Mod modP := ⟨fun a b v => by
  cases a with
  | int x => cases b with
    | int y =>
      intro h
      obtain ⟨hs, rfl⟩ := ifsome h
      exact BO_mod_int hs
    | _ => exact nsome
  | _ => exact nsome⟩
noncomputable def divP : PV → PV → Option PV
  | .int a, .int b => if b ≠ 0 ∧ Builtin.divisionGoesByPylong a b = false then some (.int (a.fdiv b)) else none
  | _, _ => none
theorem BOp_div : BOp c .FloorDiv divP := ⟨fun a b v => by
  cases a with
  | int x => cases b with
    | int y =>
      intro h
      obtain ⟨hs, rfl⟩ := ifsome h
      exact BO_floordiv_int hs.1 hs.2
    | _ => exact nsome
  | _ => exact nsome⟩
noncomputable def powP : PV → PV → Option PV
  | .int a, .int b => if 0 ≤ b ∧ (Builtin.Int.intBits a : Int) * b ≤ 2 ^ 27 then some (.int (a ^ b.toNat)) else none
  | _, _ => none
theorem BOp_pow : BOp c .Pow powP := ⟨fun a b v => by
  cases a with
  | int x => cases b with
    | int y =>
      intro h
      obtain ⟨hs, rfl⟩ := ifsome h
      exact BO_pow_int hs.1 hs.2
    | _ => exact nsome
  | _ => exact nsome⟩
noncomputable def orP : PV → PV → Option PV
  | .int a, .int b => some (.int (Builtin.bitOr a b))
  | _, _ => none
theorem BOp_or : BOp c .BitOr orP := ⟨fun a b v => by
  cases a with
  | int x => cases b with
    | int y =>
      intro h
      cases h; exact BO_or_int
    | _ => exact nsome
  | _ => exact nsome⟩
structure IOp (c : Ctx0) (op : Operator) (f : PV → PV → Option PV) : Prop where
  run : ∀ a b v, f a b = some v → ∀ (A : Around) (G : PH c.w) (s : Shared) (V₁ V₂ : Value) (E : Value → Shared → Prop), Rm 0 A → GS c A G s → 86 < s.heap.objs.size →
    Holds G a V₁ → Holds G b V₂ → wpAny c.M A (inplaceOp op V₁ V₂) (XP A G s v) E s
noncomputable def iaddP : PV → PV → Option PV
  | .int a, .int b => some (.int (a + b))
  | .str a, .str b => if a.length + b.length ≤ sizeLine then some (.str (a ++ b)) else none
  | _, _ => none
theorem IOp_add : IOp c .Add iaddP := ⟨fun a b v => by
  cases a with
  | int x => cases b with
    | int y =>
      intro h
      cases h; exact fun A G s V₁ V₂ E _ g _ ⟨t, h₁⟩ ⟨u, h₂⟩ => by subst h₁ h₂; exact P.iadd_int ⟨G, ⟨_, rfl⟩, Step.tok g _ _ (Nat.le_succ _)⟩
    | _ => exact nsome
  | str x => cases b with
    | str y =>
      intro h
      obtain ⟨hs, rfl⟩ := ifsome h
      exact fun A G s V₁ V₂ E _ g _ ⟨t, h₁⟩ ⟨u, h₂⟩ => by subst h₁ h₂; exact fixT (SB.iadd (fun _ k => ⟨G, ⟨_, rfl⟩, (Step.refl g).any k⟩) hs)
    | _ => exact nsome
  | _ => exact nsome⟩
noncomputable def ltP : PV → PV → Option Bool
  | .int a, .int b => some (decide (a < b))
  | _, _ => none
theorem COp_lt : COp c .Lt ltP := ⟨fun a b v => by
  cases a with
  | int x => cases b with
    | int y =>
      intro h
      cases h; exact CO_lt_int
    | _ => exact nsome
  | _ => exact nsome⟩
noncomputable def geP : PV → PV → Option Bool
  | .int a, .int b => some (decide (a ≥ b))
  | _, _ => none
theorem COp_ge : COp c .GtE geP := ⟨fun a b v => by
  cases a with
  | int x => cases b with
    | int y =>
      intro h
      cases h; exact CO_ge_int
    | _ => exact nsome
  | _ => exact nsome⟩
noncomputable def eqP : PV → PV → Option Bool
  | .int a, .int b => some (a == b)
  | .str a, .str b => some (a == b)
  | _, _ => none
theorem COp_eq : COp c .Eq eqP := ⟨fun a b v => by
  cases a with
  | int x => cases b with
    | int y =>
      intro h
      cases h; exact CO_eq_int
    | _ => exact nsome
  | str x => cases b with
    | str y =>
      intro h
      cases h; exact CO_eq_str
    | _ => exact nsome
  | _ => exact nsome⟩
noncomputable def strsP : List PV → Option (List Str)
  | [] => some []
  | .str x :: r => (strsP r).map (x :: ·)
  | _ => none
theorem strsP_eq : ∀ {l : List PV} {xs}, strsP l = some xs → l = xs.map .str
  | [], _ => fun h => by cases h; rfl
  | v :: r, _ => by
    cases v with
    | str x =>
      intro h
      obtain ⟨ys, hy, rfl⟩ := Option.map_eq_some_iff.mp h
      rw [strsP_eq hy]; rfl
    | _ => exact nsome
noncomputable def inP : PV → PV → Option Bool
  | .str y, .str x => some (Txt.contains x y)
  | .str y, .list l => (strsP l).map fun xs => xs.contains y
  | .str y, .tuple l => (strsP l).map fun xs => xs.contains y
  | _, _ => none
theorem CO_in_tuple {xs : List Str} {y : Str} : CO c .In (.str y) (.tuple (xs.map .str)) (xs.contains y) := ⟨fun A H G s V₁ V₂ E _ g _ hs ⟨t, h₁⟩ ⟨l, vs, n, h₂, gl, k⟩ => by
  subst h₁ h₂
  refine SeqRoads2.in_tuple (items := vs.toArray) (n := n) (fun v => (strOf v).cps.toList == y.cps.toList) (fun v hv => ?_) (hs _ _ gl) ⟨by rw [any_strs k], G, Step.tok g _ _ (Nat.le_refl _)⟩
  obtain ⟨u, e⟩ := k.strs.1 v (by simpa using hv)
  generalize strOf v = z at e
  subst e
  exact SeqRoads2.EqGives.str _ _ _ _⟩
theorem COp_in : COp c .In inP := ⟨fun a b v => by
  cases a with
  | str x => cases b with
    | str y =>
      intro h
      cases h; exact CO_in_str
    | list y =>
      intro h
      obtain ⟨xs, hx, rfl⟩ := Option.map_eq_some_iff.mp h
      rw [strsP_eq hx]; exact CO_in_list
    | tuple y =>
      intro h
      obtain ⟨xs, hx, rfl⟩ := Option.map_eq_some_iff.mp h
      rw [strsP_eq hx]; exact CO_in_tuple
    | _ => exact nsome
  | _ => exact nsome⟩
noncomputable def notinP (a b : PV) : Option Bool := match a, b with
  | .str y, .str x => some (!Txt.contains x y)
  | .str y, .list l => (strsP l).map fun xs => !xs.contains y
  | _, _ => none
theorem COp_notin : COp c .NotIn notinP := ⟨fun a b v => by
  cases a with
  | str x => cases b with
    | str y =>
      intro h
      cases h; exact CO_notin_str
    | list y =>
      intro h
      obtain ⟨xs, hx, rfl⟩ := Option.map_eq_some_iff.mp h
      rw [strsP_eq hx]; exact CO_notin_list
    | _ => exact nsome
  | _ => exact nsome⟩
end
end

section
section
variable {c : Ctx0} {d : Nat}

theorem Reads.strs {w : World} {G : PH w} {h : Heap} : ∀ {xs : List Str} {vs : List Value}, HoldsL G (xs.map .str) vs → ReadsAll h vs (xs.map PyData.str) []
  | [], _, e => by rw [show _ = [] from e]; exact .nil
  | x :: xs, _, e => by
    obtain ⟨v, r, rfl, ⟨t, rfl⟩, h2⟩ := e
    exact .cons (.str x t) (Reads.strs h2)
theorem eqvAll_strs : ∀ xs ys : List Str, PyData.eqvAll (xs.map .str) (ys.map .str) = (xs == ys)
  | [], [] => by simp [PyData.eqvAll]
  | [], _ :: _ => by simp [PyData.eqvAll]
  | _ :: _, [] => by simp [PyData.eqvAll]
  | x :: xs, y :: ys => by simp only [List.map_cons, PyData.eqvAll, PyData.eqv, eqvAll_strs xs ys]; rfl
theorem canLay_strs : ∀ xs : List Str, xs.all PyData.strOk = true → PyData.canLayAll0 (xs.map .str) = true
  | [], _ => by simp [PyData.canLayAll0]
  | x :: xs, h => by
    simp only [List.all_cons, Bool.and_eq_true] at h
    simp only [List.map_cons, PyData.canLayAll0, PyData.canLay0, h.1, canLay_strs xs h.2, Bool.and_self]
theorem depth_strs : ∀ xs : List Str, PyData.depthAll (xs.map .str) = 0
  | [] => by simp [PyData.depthAll]
  | x :: xs => by simp [PyData.depthAll, PyData.depth, depth_strs xs]

noncomputable def neL (l r : List PV) : Option Bool := (strsP l).bind fun xs => (strsP r).bind fun ys => if (xs.all PyData.strOk && ys.all PyData.strOk) = true then some (!(xs == ys)) else none
noncomputable def neP : PV → PV → Option Bool
  | .bool a, .bool b => some (a != b)
  | .str a, .str b => some (a != b)
  | .list l, .list r => neL l r
  | _, _ => none
theorem CO_ne_strs {xs ys : List Str} (hok : (xs.all PyData.strOk && ys.all PyData.strOk) = true) : CO c .NotEq (.list (xs.map .str)) (.list (ys.map .str)) (!(xs == ys)) := ⟨fun A H G s V₁ V₂ E rm g _ hs ⟨a, vs, n, h₁, ga, k1⟩ ⟨b, ws, m, h₂, gb, k2⟩ => by
  rw [Bool.and_eq_true] at hok
  subst h₁ h₂
  refine SeqAt.compareNe_reads (.list (hs _ _ ga) rfl rfl (Reads.strs (by simpa using k1))) (.list (hs _ _ gb) rfl rfl (Reads.strs (by simpa using k2))) (canLay_strs xs hok.1) (canLay_strs ys hok.2) ?_ ?_
  · have := rm.units
    simp only [PyData.depth, depth_strs]; omega
  · show _ = _ ∧ _
    rw [PyData.eqv, eqvAll_strs]
    exact ⟨rfl, G, Step.refl g⟩⟩
theorem COp_ne : COp c .NotEq neP := ⟨fun a b v => by
  cases a with
  | bool x => cases b with
    | bool y => intro h; cases h; exact CO_ne_bool
    | _ => exact nsome
  | str x => cases b with
    | str y => intro h; cases h; exact CO_ne_str
    | _ => exact nsome
  | list l => cases b with
    | list r =>
      show neL l r = some v → _
      intro h
      obtain ⟨xs, e1, h⟩ := bind_some h
      obtain ⟨ys, e2, h⟩ := bind_some h
      obtain ⟨hok, rfl⟩ := ifsome h
      rw [strsP_eq e1, strsP_eq e2]
      exact CO_ne_strs hok
    | _ => exact nsome
  | _ => exact nsome⟩
noncomputable def isnotP : PV → PV → Option Bool
  | .str _, .obj => some true
  | _, _ => none
theorem COp_isnot : COp c .IsNot isnotP := ⟨fun a b v => by
  cases a with
  | str x => cases b with
    | obj =>
      intro h; cases h
      refine ⟨fun A H G s V₁ V₂ E rm g _ hs ⟨t, h₁⟩ ⟨a, h₂⟩ => ?_⟩
      subst h₁ h₂
      exact wpAny_isNot_other rfl (fun e => nomatch e) ⟨rfl, G, Step.refl g⟩
    | _ => exact nsome
  | _ => exact nsome⟩

structure Kc (c : Ctx0) : Prop extends Cok c where
  fn : ∀ dd ∈ recsOf Pw, ∃ a o pm code doc, c.mg dd.name = some (.ref a) ∧ c.hb.get? a = some o ∧ o.data = .func (Calls.docDef dd.name dd.params dd.body dd.scope pm code doc) ∧ c.hb.CodeRec code dd.name
  boot : ∀ x : Str, x ∈ (["len", "isinstance", "issubclass", "type", "str", "bytes", "int", "list", "sorted", "sum", "object", "range", "enumerate", "zip", "dict", "ValueError", "TypeError", "AttributeError", "BytesWarning"] : List Str) → c.mg x = none ∧ c.mb x = bootBuiltins x

theorem Kc.gv (K : Kc c) {x : Str} {V : Value} (hx : (["len", "isinstance", "issubclass", "type", "str", "bytes", "int", "list", "sorted", "sum", "object", "range", "enumerate", "zip", "dict", "ValueError", "TypeError", "AttributeError", "BytesWarning"] : List Str).contains x = true) (h : bootBuiltins x = some V) : GV c x V :=
  .inr ⟨(K.boot x (by simpa using hx)).1, (K.boot x (by simpa using hx)).2.trans h⟩

noncomputable def type1 : PV → Option PV
  | .str _ => some (.raw (.type "str"))
  | _ => none
noncomputable def typeP (args : List PV) : Option PV := (args1 args).bind type1
theorem FF_type : FF c d (.type "type") typeP := ⟨fun args v h => by
  obtain ⟨a, ha, h⟩ := bind_some h
  rw [args1_eq ha]
  revert h
  cases a with
  | str x =>
    intro h; cases h
    refine ⟨fun A G s Vs E _ g _ hh => ?_⟩
    obtain ⟨_, _, rfl, ⟨t, rfl⟩, rfl⟩ := hh
    exact call_type_of (typeIs_str _ _ _) (by decide) ⟨G, rfl, Step.refl g⟩
  | _ => exact nsome⟩
theorem Gl_type (K : Kc c) : Gl c d "type" typeP := ⟨_, K.gv (by decide +kernel) (by decide +kernel), .type _, FF_type⟩

noncomputable def len1 : PV → Option PV
  | .str x => if x.length ≤ sizeLine then some (.int x.length) else none
  | .list xs => if xs.length ≤ sizeLine then some (.int xs.length) else none
  | _ => none
noncomputable def lenP (args : List PV) : Option PV := (args1 args).bind len1
theorem FFV_len : FFV c d (.builtin "len") lenP := ⟨fun args v h => by
  obtain ⟨a, ha, h⟩ := bind_some h
  rw [args1_eq ha]
  revert h
  cases a with
  | str x =>
    intro h
    obtain ⟨hs, rfl⟩ := ifsome h
    refine ⟨fun A H G s Vs E _ g _ _ hh => ?_⟩
    obtain ⟨_, _, rfl, ⟨t, rfl⟩, rfl⟩ := hh
    exact P.len_str (by have := sizeLine_eq; omega) ⟨G, ⟨_, rfl⟩, Step.tok g _ _ (Nat.le_add_right _ 2)⟩
  | list x =>
    intro h
    obtain ⟨hs, rfl⟩ := ifsome h
    exact FNV_len_list hs
  | _ => exact nsome⟩
theorem GlV_len (K : Kc c) : GlV c d "len" lenP := ⟨_, K.gv (by decide +kernel) (by decide +kernel), .builtin _, FFV_len⟩

noncomputable def isinstP (args : List PV) : Option PV := (args2 args).bind fun p => (aStr p.1).bind fun _ => (aTy p.2).bind fun n => if n = "bytes" then some (.bool false) else if n = "str" then some (.bool true) else none
theorem FF_isinstance : FF c d (.builtin "isinstance") isinstP := ⟨fun args v h => by
  obtain ⟨p, hp, h⟩ := bind_some h
  obtain ⟨x, hx, h⟩ := bind_some h
  obtain ⟨n, hn, h⟩ := bind_some h
  refine ⟨fun A G s Vs E _ g _ hh => ?_⟩
  rw [args2_eq hp, aStr_eq hx, aTy_eq hn] at hh
  obtain ⟨_, _, rfl, ⟨t, rfl⟩, _, _, rfl, rfl, rfl⟩ := hh
  by_cases e1 : n = "bytes"
  · rw [if_pos e1] at h
    cases h
    rw [e1]
    exact IsiPair.str_bytes ⟨G, rfl, Step.tok g _ _ (Nat.le_succ _)⟩
  · rw [if_neg e1] at h
    by_cases e2 : n = "str"
    · rw [if_pos e2] at h
      cases h
      rw [e2]
      exact IsiPair.str_str ⟨G, rfl, Step.refl g⟩
    · rw [if_neg e2] at h
      cases h⟩
theorem Gl_isinstance (K : Kc c) : Gl c d "isinstance" isinstP := ⟨_, K.gv (by decide +kernel) (by decide +kernel), .builtin _, FF_isinstance⟩

noncomputable def int1 : PV → Option PV
  | .int i => some (.int i)
  | _ => none
noncomputable def intP (args : List PV) : Option PV := (args1 args).bind int1
theorem FF_int : FF c d (.type "int") intP := ⟨fun args v h => by
  obtain ⟨a, ha, h⟩ := bind_some h
  rw [args1_eq ha]
  revert h
  cases a with
  | int x =>
    intro h; cases h
    refine ⟨fun A G s Vs E _ g _ hh => ?_⟩
    obtain ⟨_, _, rfl, ⟨t, rfl⟩, rfl⟩ := hh
    exact call_int_int ⟨G, ⟨_, rfl⟩, Step.refl g⟩
  | _ => exact nsome⟩
theorem Gl_int (K : Kc c) : Gl c d "int" intP := ⟨_, K.gv (by decide +kernel) (by decide +kernel), .type _, FF_int⟩

noncomputable def list1 : PV → Option PV
  | .list xs => if xs.length ≤ sizeLine then some (.list xs) else none
  | _ => none
noncomputable def listP (args : List PV) : Option PV := (args1 args).bind list1
theorem FF_list : FF c d (.type "list") listP := ⟨fun args v h => by
  obtain ⟨a, ha, h⟩ := bind_some h
  rw [args1_eq ha]
  revert h
  cases a with
  | list xs =>
    intro h
    obtain ⟨hs, rfl⟩ := ifsome h
    refine ⟨fun A G s Vs E _ g _ hh => ?_⟩
    obtain ⟨_, _, rfl, ⟨a, vs, n, rfl, ga, hl⟩, rfl⟩ := hh
    refine call_list_seq a (.inl rfl) (g.sub _ _ ga) rfl rfl (fun h' c' hk' ho => ?_) (by simpa [hl.length] using hs)
    have st := Step.fresh (n₁ := Bel s) g (tk := s.toks) (Nat.le_refl _) hk'
    exact ⟨_, ⟨_, vs, c', rfl, pin_self, hl.mono (pin_keep (none_size g))⟩, st.pinL ho (none_size g) fresh_size⟩
  | _ => exact nsome⟩

noncomputable def swP (args : List PV) : Option PV := (args2 args).bind fun p => (aStr p.1).bind fun x => (aStr p.2).bind fun y => some (.bool (Txt.startswith x y))
theorem SM_startswith : SM c "startswith" swP := ⟨_, PySem.F.slot_str_startswith, PySem.F.type_str_startswith, fun d => ⟨fun args v h => by
  obtain ⟨p, hp, h⟩ := bind_some h
  obtain ⟨x, hx, h⟩ := bind_some h
  obtain ⟨y, hy, h⟩ := bind_some h
  rw [args2_eq hp, aStr_eq hx, aStr_eq hy, ← Option.some.inj h]
  exact FN_startswith⟩⟩
noncomputable def ewP (args : List PV) : Option PV := (args2 args).bind fun p => (aStr p.1).bind fun x => (aStr p.2).bind fun y => some (.bool (Txt.endswith x y))
theorem SM_endswith : SM c "endswith" ewP := ⟨_, PySem.F.slot_str_endswith, PySem.F.type_str_endswith, fun d => ⟨fun args v h => by
  obtain ⟨p, hp, h⟩ := bind_some h
  obtain ⟨x, hx, h⟩ := bind_some h
  obtain ⟨y, hy, h⟩ := bind_some h
  rw [args2_eq hp, aStr_eq hx, aStr_eq hy, ← Option.some.inj h]
  exact FN_endswith⟩⟩
noncomputable def rfindP (args : List PV) : Option PV := (args2 args).bind fun p => (aStr p.1).bind fun x => (aStr p.2).bind fun y => some (.int (Txt.rfind x y))
theorem SM_rfind : SM c "rfind" rfindP := ⟨_, PySem.F.slot_str_rfind, PySem.F.type_str_rfind, fun d => ⟨fun args v h => by
  obtain ⟨p, hp, h⟩ := bind_some h
  obtain ⟨x, hx, h⟩ := bind_some h
  obtain ⟨y, hy, h⟩ := bind_some h
  rw [args2_eq hp, aStr_eq hx, aStr_eq hy, ← Option.some.inj h]
  exact FN_rfind⟩⟩
noncomputable def rstripP (args : List PV) : Option PV := (args2 args).bind fun p => (aStr p.1).bind fun x => (aStr p.2).bind fun y => if x.length ≤ sizeLine then some (.str (Txt.rstripChars x y)) else none
theorem SM_rstrip : SM c "rstrip" rstripP := ⟨_, PySem.F.slot_str_rstrip, PySem.F.type_str_rstrip, fun d => ⟨fun args v h => by
  obtain ⟨p, hp, h⟩ := bind_some h
  obtain ⟨x, hx, h⟩ := bind_some h
  obtain ⟨y, hy, h⟩ := bind_some h
  obtain ⟨hs, rfl⟩ := ifsome h
  rw [args2_eq hp, aStr_eq hx, aStr_eq hy]
  exact FN_rstrip hs⟩⟩
noncomputable def find4 (x y : Str) (i j : Int) : Int := match Builtin.Str.occurrences x y (fromIndex x.length i) (min (fromIndex x.length j) x.length) 1 with
  | k :: _ => (k : Int)
  | [] => -1
open Builtin in
theorem gives_find4 (x y : Str) (i j : Int) (t u v z : Tok) : Gives («str.find» ⟨[.str x t, .str y u, .int i v, .int j z], []⟩) (.int (find4 x y i j)) := by
  show Gives (match Builtin.Str.occurrences x y (fromIndex x.length i) (min (fromIndex x.length j) x.length) 1 with | k :: _ => retInt k | [] => (do rule "str.find.not-found"; retInt (-1))) _
  unfold find4
  cases Builtin.Str.occurrences x y (fromIndex x.length i) (min (fromIndex x.length j) x.length) 1 with
  | nil => exact .rule (.of_eq rfl)
  | cons k _ => exact .of_eq rfl
noncomputable def findP (args : List PV) : Option PV := (args4 args).bind fun p => (aStr p.1).bind fun x => (aStr p.2.1).bind fun y => (aInt p.2.2.1).bind fun i => (aInt p.2.2.2).map fun j => .int (find4 x y i j)
theorem SM_find : SM c "find" findP := ⟨_, PySem.F.slot_str_find, PySem.F.type_str_find, fun d => ⟨fun args v h => by
  obtain ⟨p, hp, h⟩ := bind_some h
  obtain ⟨x, hx, h⟩ := bind_some h
  obtain ⟨y, hy, h⟩ := bind_some h
  obtain ⟨i, hi, h⟩ := bind_some h
  obtain ⟨j, hj, rfl⟩ := Option.map_eq_some_iff.mp h
  refine ⟨fun A G s Vs E _ g _ hh => ?_⟩
  rw [args4_eq hp, aStr_eq hx, aStr_eq hy, aInt_eq hi, aInt_eq hj] at hh
  obtain ⟨_, _, rfl, ⟨t, rfl⟩, _, _, rfl, ⟨u, rfl⟩, _, _, rfl, ⟨t3, rfl⟩, _, _, rfl, ⟨t4, rfl⟩, rfl⟩ := hh
  exact call_gives PySem.F.slot_str_find (typeIs_str _ _ _) PySem.F.entry_str_find (PySem.F.args_str_find_4 _ _ _ _) (gives_find4 _ _ _ _ _ _ _ _) ⟨G, ⟨_, rfl⟩, Step.tok g _ _ (Nat.le_succ _)⟩⟩⟩

theorem HoldsL.values {w : World} {G : PH w} : ∀ {xs : List Str} {vs : List Value}, HoldsL G (xs.map .str) vs → ∃ l : List (Str × Tok), strValues l = vs ∧ l.map (·.1) = xs
  | [], _, e => by rw [show _ = [] from e]; exact ⟨[], rfl, rfl⟩
  | x :: xs, _, e => by
    obtain ⟨v, r, rfl, ⟨t, rfl⟩, h2⟩ := e
    obtain ⟨l, e1, e2⟩ := HoldsL.values h2
    exact ⟨(x, t) :: l, by rw [← e1]; rfl, by rw [← e2]; rfl⟩
noncomputable def joinP (args : List PV) : Option PV := (args2 args).bind fun p => (aStr p.1).bind fun x => (aList p.2).bind fun l => (strsP l).bind fun xs => if JoinOk x xs = true then some (.str (Txt.join x xs)) else none
theorem FFV_join : FFV c d (.builtin "str.join") joinP := ⟨fun args v h => by
  obtain ⟨p, hp, h⟩ := bind_some h
  obtain ⟨x, hx, h⟩ := bind_some h
  obtain ⟨l, hl, h⟩ := bind_some h
  obtain ⟨xs, hxs, h⟩ := bind_some h
  obtain ⟨hok, rfl⟩ := ifsome h
  rw [args2_eq hp, aStr_eq hx, aList_eq hl, strsP_eq hxs]
  refine ⟨fun A H G s Vs E _ g _ hs hh => ?_⟩
  obtain ⟨_, _, rfl, ⟨t, rfl⟩, _, _, rfl, ⟨a, vs, n, rfl, ga, hl⟩, rfl⟩ := hh
  obtain ⟨l, e1, e2⟩ := hl.values
  exact fixT (SC.join (l := l) ⟨_, hs _ _ ga, rfl, n, by rw [e1]⟩ e2 hok (fun _ k => ⟨G, ⟨_, rfl⟩, (Step.refl g).any k⟩))⟩
end
end

section
section
variable {c : Ctx0} {d : Nat} {ns : List (Str × NK)} {env : Env} {Γ : List Slot} {nm : List (Str × NameKind)}

noncomputable def augF (i : Nat) (f : PV → PV → Option PV) (F : SF PV) : SF Out := fun Γ => (rd i Γ).bind fun a => (F Γ).bind fun b => (f a b).map fun v => .next ((clr i Γ).set i (.val v))
theorem C1_aug (K : EnvK ns nm env) {x : Str} {np pos : Pos} {op : Operator} {e : PySem.Expr} {f F} {i : Nat} {k : NK} (hi : findN ns x 0 = some (i, k)) (hk : (k != .cap) = true) (o : IOp c op f) (h : CE c d ns env e F) :
    C1 c d ns env (.AugAssign (.Name x np) op e pos) (augF i f F) := ⟨fun Γ o' hv => by
  obtain ⟨a, ha, hv1⟩ := bind_some hv
  obtain ⟨b, hb, hv2⟩ := bind_some hv1
  obtain ⟨v, hv3, e'⟩ := Option.map_eq_some_iff.mp hv2
  subst e'
  refine ⟨fun A n₀ G s E rm S => ?_⟩
  obtain ⟨V, SV⟩ := S
  obtain ⟨y, hy, hh⟩ := SV.slot i _ (rd_eq ha)
  refine wpAny_AugAssign_Name (loadVar K.ok (findN_get hi) SV hy ?_)
  refine wm ((h.run Γ b hb).run A n₀ G s E rm ⟨V, SV⟩) (fun V₁ s₁ ⟨G₁, hh₁, x₁⟩ => ?_)
  have S₁ := St.step ⟨V, SV⟩ x₁
  refine wm (o.run a b v hv3 A G₁ s₁ y V₁ E (rm.less (Nat.zero_le _)) S₁.gs S₁.big (hh.mono x₁.le) hh₁) (fun V₂ s₂ ⟨G₂, hh₂, x₂⟩ => ?_)
  have S₂ := S₁.step x₂
  exact wm (store_val K.ok (findN_get hi) (by simpa using hk) S₂ hh₂) (fun _ s₃ ⟨x₃, S₃⟩ => ⟨G₂, ⟨rfl, S₃⟩, ((x₁.then x₂).up (St.n0 ⟨V, SV⟩)).trans x₃⟩)⟩

theorem C1_assert {t msg pos T} (h : CB c d ns env t T) : C1 c d ns env (.Assert t msg pos) (fun Γ => (T Γ).bind fun b => if b then some (.next Γ) else none) := ⟨fun Γ o hv => by
  obtain ⟨b, hb, hv⟩ := bind_some hv
  cases b with
  | false => cases hv
  | true =>
    cases hv
    exact ⟨fun A n₀ G s E rm S => wpAny_Assert_holds (wm ((h.run Γ true hb).run A n₀ G s E rm S) (fun b s₁ ⟨G₁, e, x₁⟩ => ⟨e, G₁, ⟨rfl, S.step x₁⟩, x₁.up S.n0⟩))⟩⟩

theorem store_new (ok : EnvOK ns env) {i : Nat} {x : Str} {k : NK} (hi : ns[i]? = some (x, k)) (hk : k ≠ .cap) {A n₀} {G : PH c.w} {s V} (S : StV c ns env Γ A n₀ G s V) {o : Obj} {sl : Slot} (hf : o.isFreed = false) (hcell : ∀ v, o.data ≠ .cell v)
    (hsl : ∀ (a : Addr) (h' : Heap) (V : Nat → Option Value), 86 < a → G a = none → a ≠ env.locals → a ∉ FS A → ¬ n₀ a → h'.get? a = some o → SlotR env.locals A n₀ G h' V sl (some (.ref a))) {E : Value → Shared → Prop} {Q : Unit → Shared → Prop}
    (hQ : ∀ s', Step A n₀ G s G s' → St c ns env ((clr i Γ).set i sl) A n₀ G s' → Q () s') :
    wpAny c.M A (storeName env x (.ref s.heap.objs.size)) Q E { s with heap := s.heap.push o } := by
  have up : ∀ b o', s.heap.get? b = some o' → (s.heap.push o).get? b = some o' := fun b o' e => Heap.get?_push_of_some _ e
  have S₁ := S.fresh (tk := s.toks) (Nat.le_refl _) up
  have st := Step.fresh (n₁ := n₀) S.gs (tk := s.toks) (Nat.le_refl _) up
  have nb : ¬ Bel s s.heap.objs.size := fresh_size
  have hL : s.heap.objs.size ≠ env.locals := fun q => by
    obtain ⟨m, hn, _⟩ := S.loc; obtain ⟨o', e, _⟩ := ns_obj0 hn; exact nb (q ▸ ⟨o', e⟩)
  have hF : s.heap.objs.size ∉ FS A := fun q => nb (FS_lt S.gs q)
  have h86 : 86 < s.heap.objs.size := St.big ⟨V, S⟩
  refine wm (store_core ok hi hk S₁ (v := .ref s.heap.objs.size) (sl := sl) (fun h' b hs' hb => ?_) (fun _ j y hj hy ho e => ?_)) (fun _ s' ⟨x, y⟩ => hQ s' (st.trans x) ⟨_, y⟩)
  · have hne := hb s.heap.objs.size o (Heap.get?_push_size _ hf) hL hcell
    exact hsl _ h' _ h86 (none_size S.gs) hL hF (fun q => nb (S.bel _ q)) ((hs'.2 _ hne).trans (Heap.get?_push_size _ hf))
  · have z := S.slot j _ hy
    cases y with
    | own xs => obtain ⟨a, vs, n, e', g, _, _, _, hg, _⟩ := z; rw [e] at e'; cases e'; exact nb ⟨_, hg⟩
    | odict es => obtain ⟨a, o', kvs, e', g, _, _, _, hg, _⟩ := z; rw [e] at e'; cases e'; exact nb ⟨_, hg⟩
    | _ => cases ho

theorem C1_own_nil (ok : EnvOK ns env) {x : Str} {np lp pos : Pos} {i : Nat} {k : NK} (hi : findN ns x 0 = some (i, k)) (hk : (k != .cap) = true)
    (hs : swapsWith (.List [] lp) (some (.Name x np)) pos.line env = pure false) : C1 c d ns env (.Assign [.Name x np] (.List [] lp) pos) (fun Γ => some (.next ((clr i Γ).set i (.own [])))) := ⟨fun Γ o hv => by
  cases hv
  refine ⟨fun A n₀ G s E rm S => ?_⟩
  obtain ⟨V, SV⟩ := S
  rw [exec_Assign_Name _ _ _ _ _ hs]
  refine wbs (wpAny_bind (wpAny_List_spliced (wpAny_items_nil ⟨Nat.zero_le _, ?_⟩)))
  refine wbs (wpAny_bind (wpAny_bindName ?_))
  exact store_new (o := lobj [] 0) (sl := .own []) ok (findN_get hi) (by simpa using hk) SV rfl (fun v h => nomatch h) (fun a h' V _ g hL hF hn e => ⟨a, [], 0, rfl, g, hL, hF, hn, e, rfl⟩) fun s' x S' => wpAny_pure ⟨G, ⟨rfl, S'⟩, x⟩⟩


noncomputable def rdR (i : Nat) : SF PV := fun Γ => match Γ[i]? with
  | some (.val v) => some v
  | some (.own xs) => some (.list xs)
  | some (.odict es) => some (.dict es)
  | _ => none
theorem C1_ret_name (K : EnvK ns nm env) {x : Str} {np pos : Pos} {i : Nat} {k : NK} (hi : findN ns x 0 = some (i, k)) : C1 c d ns env (.Return (some (.Name x np)) pos) (fun Γ => (rdR i Γ).map .ret) := ⟨fun Γ o hv => by
  obtain ⟨v, hv, e⟩ := Option.map_eq_some_iff.mp hv
  subst e
  unfold rdR at hv
  split at hv
  · cases hv; exact SX_ret (EX_name K.ok i (findN_get hi) (by assumption))
  · rename_i xs hsl
    cases hv
    refine ⟨fun A n₀ G s E rm ⟨V, SV⟩ => ?_⟩
    obtain ⟨a, vs, n, hy, g, hL, hf, hn, hg, hh⟩ := SV.slot i _ hsl
    refine wpAny_Return_some (wpAny_Name (loadVar K.ok (findN_get hi) SV hy ?_) (K.ok.dbg i x k (findN_get hi)))
    exact ⟨_, ⟨_, rfl, ⟨a, vs, n, rfl, pin_self, hh.mono (pin_keep g)⟩⟩, (Step.refl SV.gs).pinL hg g hn⟩
  · rename_i es hsl
    cases hv
    refine ⟨fun A n₀ G s E rm ⟨V, SV⟩ => ?_⟩
    obtain ⟨a, o, kvs, hy, g, hL, hf, hn, hg, hq, hh⟩ := SV.slot i _ hsl
    refine wpAny_Return_some (wpAny_Name (loadVar K.ok (findN_get hi) SV hy ?_) (K.ok.dbg i x k (findN_get hi)))
    exact ⟨_, ⟨_, rfl, ⟨a, o, kvs, rfl, pin_self, hq, hh.mono (pin_keep g)⟩⟩, (Step.refl SV.gs).pinL hg g hn⟩
  · cases hv⟩
end
end

section
section
variable {prog : Program} {w : World} {A : Around} {E : Value → Shared → Prop} {s : Shared}
theorem draw_list {it t : Addr} {items : Array Value} (hne : t ≠ it) : ∀ (n i : Nat) (s : Shared) (Q : List Value → Shared → Prop), s.heap.IsListIter it t i → s.heap.IsList t items → i + n ≤ items.size →
    (∀ h', h'.IsListIter it t (i + n) → Heap.SameBut it s.heap h' → Q ((items.toList.drop i).take n) { s with heap := h' }) → wpAny (model prog w) A (draw (.ref it) n) Q E s
  | 0, i, s, Q, hit, _, _, hQ => by
    show wpAny _ _ (pure []) Q E s
    exact wpAny_pure (by simpa using hQ s.heap hit (Heap.SameBut.refl ..))
  | n + 1, i, s, Q, hit, ht, hle, hQ => by
    have hlt : i < items.size := by omega
    show wpAny _ _ (pyNext (.ref it) >>= _) Q E s
    refine wpAny_bind (wpAny_pyNext_list_item hit ht (x := items[i]) (by simp [hlt]) fun h₁ hit₁ hs₁ => ?_)
    refine wbh (draw_list hne n (i + 1) _ _ hit₁ (ht.extBut hs₁.extBut hne) (by omega) fun h₂ hit₂ hs₂ => wpAny_pure ?_)
    have hd : items.toList.drop i = items[i] :: items.toList.drop (i + 1) := by simp [List.drop_eq_getElem_cons, hlt]
    have := hQ h₂ (by rw [show i + (n + 1) = i + 1 + n by omega]; exact hit₂) (hs₁.trans hs₂)
    rw [hd, List.take_succ_cons] at this
    exact this

theorem unpack_list {t : Addr} {items : Array Value} {Q : List Value → Shared → Prop} (hh : A.handled = none) (ht : s.heap.IsList t items)
    (hQ : ∀ h', Heap.ExtBut s.heap.objs.size s.heap h' → Q items.toList { s with heap := h' }) : wpAny (model prog w) A (unpackItems (.ref t) items.size none) Q E s := by
  have hlt : t ≠ s.heap.objs.size := by obtain ⟨o, ho, _⟩ := ht; exact Nat.ne_of_lt (Heap.lt_size ho)
  unfold unpackItems
  refine wpAny_bind ?_
  · unfold notIterableAtAll
    refine wpAny_bind (wpAny_specialOf ht.typeIs slot_list_iter.lookup ?_)
    refine wpAny_pure ?_
    simp only [Bool.false_eq_true, if_false]
    refine wbh (wpAny_pyIter_list ht ?_)
    refine wbh (draw_list hlt items.size 0 _ _ ⟨_, Heap.get?_push_size _ rfl, rfl, rfl⟩ (ht.push _) (by omega) fun h₁ hit₁ hs₁ => ?_)
    have hall : List.take items.size (List.drop 0 items.toList) = items.toList := by
      rw [List.drop_zero]; exact List.take_of_length_le (by simp)
    rw [hall]
    rw [if_neg (by simp)]
    have ht₁ : h₁.IsList t items := (ht.push _).extBut hs₁.extBut hlt
    refine wbh (wpAny_pyNext_list_end hh hit₁ ht₁ (by simp) fun h₂ he₂ => ?_)
    simp only [Option.isSome_none, Bool.false_eq_true, if_false]
    refine wpAny_pure (hQ h₂ fun b o hb e => he₂ b o hb (hs₁.extBut b o hb (Heap.get?_push_of_some _ e)))
end

section
variable {c : Ctx0} {d : Nat} {ns : List (Str × NK)} {env : Env} {Γ : List Slot} {nm : List (Str × NameKind)}

noncomputable def asgAll : List Nat → List PV → List Slot → List Slot
  | i :: is, v :: vs, Γ => asgAll is vs (bd1 i v Γ)
  | _, _, Γ => Γ
theorem stores (ok : EnvOK ns env) {A n₀} {E : Value → Shared → Prop} : ∀ (xs : List Str) (is : List Nat) (vs : List PV) (Vs : List Value) (f : Str → Value → Sem Unit) (Γ : List Slot) (G : PH c.w) (s : Shared) (Q : Unit → Shared → Prop),
    (∀ x V M Q E s, wpAny M A (storeName env x V) Q E s → wpAny M A (f x V) Q E s) →
    xs.length = is.length → vs.length = is.length → (∀ (j : Nat) x i, xs[j]? = some x → is[j]? = some i → ∃ k, findN ns x 0 = some (i, k) ∧ k ≠ NK.cap) → HoldsL G vs Vs → St c ns env Γ A n₀ G s →
    (∀ s', St c ns env (asgAll is vs Γ) A n₀ G s' → Step A n₀ G s G s' → Q () s') → wpAny c.M A (assignInOrder (xs.map f) Vs) Q E s
  | [], [], [], Vs, f, Γ, G, s, Q, _, _, _, _, hv, S, hQ => by
    rw [show Vs = [] from hv]
    exact assignInOrder_nil (hQ s S (Step.refl S.gs))
  | x :: xs, i :: is, v :: vs, Vs, f, Γ, G, s, Q, hf, h1, h2, h3, hv, S, hQ => by
    obtain ⟨V, r, rfl, hh, hr⟩ := hv
    obtain ⟨k, hk, hk'⟩ := h3 0 x i rfl rfl
    show wpAny _ _ (assignInOrder (f x :: xs.map f) (V :: r)) _ _ _
    refine assignInOrder_cons (hf x V _ _ _ _ (wm (store_val ok (findN_get hk) hk' S hh) (fun _ s₁ ⟨x₁, S₁⟩ => ?_)))
    exact stores ok xs is vs r f _ G s₁ Q hf (by simpa using h1) (by simpa using h2) (fun j y l a b => h3 (j + 1) y l (by simpa using a) (by simpa using b)) hr S₁ fun s' S' st => hQ s' S' (x₁.trans st)
  | [], _ :: _, _, _, _, _, _, _, _, _, h1, _, _, _, _, _ => by simp at h1
  | _ :: _, [], _, _, _, _, _, _, _, _, h1, _, _, _, _, _ => by simp at h1
  | _, [], _ :: _, _, _, _, _, _, _, _, _, h2, _, _, _, _ => by simp at h2
  | _, _ :: _, [], _, _, _, _, _, _, _, _, h2, _, _, _, _ => by simp at h2

noncomputable def okNames (ns : List (Str × NK)) (xs : List Str) (is : List Nat) : Bool := xs.length == is.length && (xs.zip is).all fun p => match findN ns p.1 0 with
  | some (i, k) => i == p.2 && k != .cap
  | none => false
set_option tactic.hygienic true in
theorem okNames_of {xs is} (h : okNames ns xs is = true) : xs.length = is.length ∧ ∀ (j : Nat) x i, xs[j]? = some x → is[j]? = some i → ∃ k, findN ns x 0 = some (i, k) ∧ k ≠ NK.cap := by
  unfold okNames at h
  simp only [Bool.and_eq_true, beq_iff_eq, List.all_eq_true] at h
  refine ⟨h.1, fun j x i hx hi => ?_⟩
  have := h.2 (x, i) (List.mem_of_getElem? (List.getElem?_zip_eq_some.mpr ⟨hx, hi⟩))
  dsimp only at this
  split at this
  · rename_i i' k e
    simp only [Bool.and_eq_true, beq_iff_eq, bne_iff_ne, ne_eq] at this
    rw [this.1] at e
    exact ⟨k, e, this.2⟩
  · cases this

theorem C1_tup_swapped (ok : EnvOK ns env) {elts : List PySem.Expr} {kk k2 : Nat} {tp p pos : Pos} {vals : List PySem.Expr} {F : SF (List PV)} (names : List Str) (is : List Nat) (h : CL c d ns env vals F) (hn : okNames ns names.reverse is = true)
    (hs : swapsWithSole [.Tuple elts kk tp] (.Tuple vals k2 p) pos.line env = pure false) (hw : swappedStores [.Tuple elts kk tp] (.Tuple vals k2 p) env = pure (some names)) :
    C1 c d ns env (.Assign [.Tuple elts kk tp] (.Tuple vals k2 p) pos) (fun Γ => (F Γ).bind fun vs => if vs.length = names.length ∧ vs.length ≤ sizeLine then some (.next (asgAll is vs.reverse Γ)) else none) := ⟨fun Γ o hv => by
  obtain ⟨vs, hvs, hv⟩ := bind_some hv
  split at hv
  · rename_i hl
    cases hv
    obtain ⟨l1, l2⟩ := okNames_of hn
    refine ⟨fun A n₀ G s E rm S => Assign_Tuple_swapped ?_ hs hw⟩
    refine wm ((EX_tuple (h.run Γ vs hvs) hl.2).run A n₀ G s E rm S) (fun V s₁ hpt => ?_)
    obtain ⟨G₁, ⟨a, ws, n, e, ga, hh⟩, x₁⟩ := hpt
    subst e
    have S₁ := S.step x₁
    have hsz : names.length = ws.toArray.size := by rw [List.size_toArray, hh.length, hl.1]
    rw [hsz]
    refine wpAny_unpackItems_tuple rm.handled ⟨_, S₁.gs.sub _ _ ga, rfl, n, rfl⟩ fun h' he => ?_
    have up : ∀ b o, s₁.heap.get? b = some o → h'.get? b = some o := fun b o e => he b o (Nat.ne_of_lt (Heap.lt_size e)) e
    obtain ⟨V₁, SV₁⟩ := S₁
    have S₂ := SV₁.fresh (tk := s₁.toks) (Nat.le_refl _) up
    have st := Step.fresh (n₁ := n₀) SV₁.gs (tk := s₁.toks) (Nat.le_refl _) up
    have rev : ∀ {xs : List PV} {us : List Value}, HoldsL G₁ xs us → HoldsL G₁ xs.reverse us.reverse := fun {xs us} => by
      intro h
      induction xs generalizing us with
      | nil => rw [show us = [] from h]; rfl
      | cons x xs ih => obtain ⟨v, r, rfl, h1, h2⟩ := h; simp only [List.reverse_cons]; exact (ih h2).append (cons_of h1 rfl)
    exact stores ok names.reverse is vs.reverse ws.reverse (fun n => bindName env n) Γ G₁ _ _ (fun x V M Q E s h => wpAny_bindName h) l1 (by rw [← l1]; simp [hl.1]) l2 (rev hh) ⟨V₁, S₂⟩ fun s' S' st' => ⟨G₁, ⟨rfl, S'⟩, ((x₁.up S.n0).trans st).trans st'⟩
  · cases hv⟩

noncomputable def isSeq : PV → Bool
  | .list _ => true
  | .tuple _ => true
  | _ => false
theorem C1_tup_plain (ok : EnvOK ns env) {elts : List PySem.Expr} {kk : Nat} {tp pos : Pos} {val : PySem.Expr} {F : SF PV} (names : List Str) (is : List Nat) (h : CE c d ns env val F) (hn : okNames ns names is = true)
    (hs : swapsWithSole [.Tuple elts kk tp] val pos.line env = pure false) (hw : swappedStores [.Tuple elts kk tp] val env = pure none)
    (ha : ∃ ps : List Pos, ps.length = names.length ∧ (assignEach elts env) = (names.zip ps).map fun x => (false, assign (.Name x.1 x.2) env)) :
    C1 c d ns env (.Assign [.Tuple elts kk tp] val pos) (fun Γ => (F Γ).bind fun v => (itemsP v).bind fun vs => if vs.length = names.length ∧ isSeq v = true then some (.next (asgAll is vs Γ)) else none) := ⟨fun Γ o hv => by
  obtain ⟨v, hvv, hv1⟩ := bind_some hv
  obtain ⟨vs, hvs, hv2⟩ := bind_some hv1
  split at hv2
  · rename_i hl
    cases hv2
    obtain ⟨l1, l2⟩ := okNames_of hn
    obtain ⟨ps, hps, ha⟩ := ha
    have a1 : (assignEach elts env).length = names.length := by rw [ha]; simp [hps]
    have a2 : (assignEach elts env).findIdx? (·.1) = none := by
      rw [ha, List.findIdx?_eq_none_iff]; simp
    have a3 : (assignEach elts env).map (·.2) = (names.zip ps).map fun x => assign (.Name x.1 x.2) env := by rw [ha, List.map_map]; rfl
    refine ⟨fun A n₀ G s E rm S => Assign_Tuple ?_ hs hw⟩
    refine wm ((h.run Γ v hvv).run A n₀ G s E rm S) (fun V s₁ hpt => ?_)
    obtain ⟨G₁, hh, x₁⟩ := hpt
    have S₁ := S.step x₁
    rw [arm_assign_Tuple]
    refine wbs ?_
    unfold unpack
    rw [a2, a1]
    have fin : ∀ (ws : List Value) (h' : Heap), HoldsL G₁ vs ws → Heap.ExtBut s₁.heap.objs.size s₁.heap h' → wpAny c.M A (assignInOrder ((assignEach elts env).map (·.2)) ws) (fun _ => SP c ns env A n₀ G s (.next (asgAll is vs Γ)) .next) E { s₁ with heap := h' } := fun ws h' hws he => by
      have up : ∀ b o, s₁.heap.get? b = some o → h'.get? b = some o := fun b o e => he b o (Nat.ne_of_lt (Heap.lt_size e)) e
      obtain ⟨V₁, SV₁⟩ := S₁
      have S₂ := SV₁.fresh (tk := s₁.toks) (Nat.le_refl _) up
      have st := Step.fresh (n₁ := n₀) SV₁.gs (tk := s₁.toks) (Nat.le_refl _) up
      rw [a3]
      have key : ∀ (xs : List Str) (qs : List Pos), qs.length = xs.length → ∀ (js : List Nat) (us : List PV) (Us : List Value) (Γ : List Slot) (s : Shared) (Q : Unit → Shared → Prop), xs.length = js.length → us.length = js.length →
          (∀ (j : Nat) x i, xs[j]? = some x → js[j]? = some i → ∃ k, findN ns x 0 = some (i, k) ∧ k ≠ NK.cap) → HoldsL G₁ us Us → St c ns env Γ A n₀ G₁ s → (∀ s', St c ns env (asgAll js us Γ) A n₀ G₁ s' → Step A n₀ G₁ s G₁ s' → Q () s') →
          wpAny c.M A (assignInOrder ((xs.zip qs).map fun x => assign (.Name x.1 x.2) env) Us) Q E s := by
        intro xs
        induction xs with
        | nil =>
          intro qs _ js us Us Γ s Q h1 h2 _ hv S hQ
          have : js = [] := by cases js <;> simp_all
          subst this
          have : us = [] := by cases us <;> simp_all
          subst this
          rw [show Us = [] from hv]
          exact assignInOrder_nil (hQ s S (Step.refl S.gs))
        | cons x xs ih =>
          intro qs hq js us Us Γ s Q h1 h2 h3 hv S hQ
          cases qs with
          | nil => simp at hq
          | cons q qs =>
            cases js with
            | nil => simp at h1
            | cons i js =>
              cases us with
              | nil => simp at h2
              | cons u us =>
                obtain ⟨U, r, rfl, hh, hr⟩ := hv
                obtain ⟨k, hk, hk'⟩ := h3 0 x i rfl rfl
                refine assignInOrder_cons (wpAny_assign_Name (wm (store_val ok (findN_get hk) hk' S hh) (fun _ s₁ ⟨x₁, S₁⟩ => ?_)))
                exact ih qs (by simpa using hq) js us r _ s₁ Q (by simpa using h1) (by simpa using h2) (fun j y l a b => h3 (j + 1) y l (by simpa using a) (by simpa using b)) hr S₁ fun s' S' st => hQ s' S' (x₁.trans st)
      exact key names ps hps is vs ws Γ _ _ l1 (by rw [← l1]; exact hl.1) l2 hws ⟨V₁, S₂⟩ fun s' S' st' => ⟨G₁, ⟨rfl, S'⟩, ((x₁.up S.n0).trans st).trans st'⟩
    cases v with
    | list xs =>
      cases hvs
      obtain ⟨a, ws, n, rfl, ga, hw'⟩ := hh
      have : names.length = ws.toArray.size := by rw [List.size_toArray, hw'.length, hl.1]
      rw [this]
      exact wbh (unpack_list rm.handled ⟨_, S₁.gs.sub _ _ ga, rfl, n, rfl⟩ fun h' he => fin ws h' hw' he)
    | tuple xs =>
      cases hvs
      obtain ⟨a, ws, n, rfl, ga, hw'⟩ := hh
      have : names.length = ws.toArray.size := by rw [List.size_toArray, hw'.length, hl.1]
      rw [this]
      exact wbh (wpAny_unpackItems_tuple rm.handled ⟨_, S₁.gs.sub _ _ ga, rfl, n, rfl⟩ fun h' he => fin ws h' hw' he)
    | _ => exact absurd hl.2 (by simp [isSeq])
  · cases hv2⟩
end
end

section
section
variable {c : Ctx0} {d : Nat} {ns : List (Str × NK)} {env : Env} {Γ : List Slot} {nm : List (Str × NameKind)}

noncomputable def negP : PV → Option PV
  | .int i => some (.int (-i))
  | _ => none
theorem CE_neg {e pos F} (h : CE c d ns env e F) : CE c d ns env (.UnaryOp .USub e pos) (fun Γ => (F Γ).bind negP) := ⟨fun Γ v hv => by
  obtain ⟨a, ha, hv⟩ := bind_some hv
  unfold negP at hv
  split at hv
  · cases hv
    exact ⟨fun A n₀ G s E rm S => wpAny_UnaryOp (wm ((h.run Γ _ ha).run A n₀ G s E rm S) (fun V s₁ ⟨G₁, ⟨t, e⟩, x₁⟩ => by
      subst e
      exact P.neg_int ⟨G₁, ⟨_, rfl⟩, x₁.then (Step.tok (S.step x₁).gs _ _ (Nat.le_succ _))⟩))⟩
  · cases hv⟩

theorem CE_chain2 {l op1 op2 r1 r2 pos F G H f g} (h₁ : CE c d ns env l F) (h₂ : CE c d ns env r1 G) (h₃ : CE c d ns env r2 H) (o1 : COp c op1 f) (o2 : COp c op2 g)
    (he : eval (.Compare l [op1, op2] [r1, r2] pos) env = (do compareChain pos (← eval l env) [op1, op2] [eval r1 env, eval r2 env])) :
    CE c d ns env (.Compare l [op1, op2] [r1, r2] pos) (fun Γ => (F Γ).bind fun a => (G Γ).bind fun b => (f a b).bind fun t => if t then ((H Γ).bind fun e => g b e).map .bool else some (.bool false)) := ⟨fun Γ v hv => by
  obtain ⟨a, ha, hv1⟩ := bind_some hv
  obtain ⟨b, hb, hv2⟩ := bind_some hv1
  obtain ⟨t, ht, hv3⟩ := bind_some hv2
  refine ⟨fun A n₀ GG s E rm S => ?_⟩
  rw [he]
  refine wb ((h₁.run Γ a ha).run A n₀ GG s E rm S) (fun V₁ s₁ ⟨G₁, hh₁, x₁⟩ => ?_)
  have S₁ := S.step x₁
  unfold compareChain
  refine wbh (wm ((h₂.run Γ b hb).run A n₀ G₁ s₁ E rm S₁) (fun V₂ s₂ ⟨G₂, hh₂, x₂⟩ => ?_))
  have S₂ := S₁.step x₂
  refine wbs (wbh ?_)
  refine wm ((o1.run a b t ht).run A G₂ G₂ s₂ V₁ V₂ E (rm.less (Nat.zero_le _)) S₂.gs S₂.big S₂.gs.sub (hh₁.mono x₂.le) hh₂) (fun V₃ s₃ ⟨e3, G₃, x₃⟩ => ?_)
  subst e3
  have S₃ := S₂.step x₃
  refine wpAny_bind (wpAny_release (wbh (wpAny_truthy_bool ?_)))
  cases t with
  | false =>
    simp only [Bool.false_eq_true, if_false, Option.some.injEq] at hv3 ⊢
    subst hv3
    exact wpAny_pure ⟨G₃, rfl, (x₁.then x₂).then x₃⟩
  | true =>
    simp only [if_true] at hv3 ⊢
    obtain ⟨t2, ht2, e⟩ := Option.map_eq_some_iff.mp hv3
    subst e
    obtain ⟨cc, hc, hg⟩ := bind_some ht2
    unfold compareChain
    refine wbh (wm ((h₃.run Γ cc hc).run A n₀ G₃ s₃ E rm S₃) (fun V₄ s₄ ⟨G₄, hh₄, x₄⟩ => ?_))
    have S₄ := S₃.step x₄
    refine wbs (wpAny_operating ?_)
    refine wm ((o2.run b cc t2 hg).run A G₄ G₄ s₄ V₂ V₄ E (rm.less (Nat.zero_le _)) S₄.gs S₄.big S₄.gs.sub ((hh₂.mono x₃.le).mono x₄.le) hh₄) (fun V₅ s₅ ⟨e5, G₅, x₅⟩ => ?_)
    exact ⟨G₅, e5, (((x₁.then x₂).then x₃).then x₄).then x₅⟩⟩

noncomputable def findD : List (Str × PV) → Str → Option PV
  | [], _ => none
  | (k, v) :: r, x => if k = x then some v else findD r x
theorem findD_val {w : World} {G : PH w} : ∀ {es : List (Str × PV)} {kvs : List (Str × Value)} {x : Str} {v : PV}, HoldsD G es kvs → findD es x = some v → ∃ V, valueAt kvs x = some V ∧ Holds G v V
  | [], _, _, _, _, h => by cases h
  | (k, u) :: r, kvs, x, v, hh, h => by
    obtain ⟨U, q, rfl, h1, h2⟩ := hh
    unfold findD at h
    unfold valueAt
    by_cases e : k = x
    · rw [if_pos e] at h; cases h
      refine ⟨U, ?_, h1⟩
      simp [e]
    · rw [if_neg e] at h
      obtain ⟨V, e1, e2⟩ := findD_val h2 h
      refine ⟨V, ?_, e2⟩
      unfold valueAt at e1
      simpa [e] using e1
noncomputable def item2 : PV → PV → Option PV
  | .dict es, .str k => findD es k
  | .str x, .int i => if fitsSsize i = true ∧ (Txt.charAt x i).isSome = true then some (.str (Txt.item x i)) else none
  | .list xs, .int i => if 0 ≤ i ∧ i < 2 ^ 62 then xs[i.toNat]? else none
  | _, _ => none
set_option tactic.hygienic true in
theorem CE_sub2 {value slice : PySem.Expr} {pos : Pos} {F' G'} (h₁ : CE c d ns env value F') (h₂ : CE c d ns env slice G')
    (hsub : ∀ o i, subscripted slice false o i = operate [o, i] (getItem o i)) : CE c d ns env (.Subscript value slice pos) (app2 item2 F' G') := ⟨fun Γ v hv0 => by
  obtain ⟨a, ha, hv1⟩ := bind_some hv0
  obtain ⟨b, hb, hv⟩ := bind_some hv1
  clear hv0 hv1
  unfold item2 at hv
  split at hv
  · rename_i es k
    refine EX_sub slot_dict_getitem.lookup (h₁.run Γ _ ha) (h₂.run Γ _ hb) ⟨fun A G s V₁ V₂ E _ g _ hh hk => ?_⟩ hsub
    obtain ⟨a, o, kvs, rfl, ga, ⟨h86, hd⟩, hl⟩ := hh
    obtain ⟨t, rfl⟩ := hk
    obtain ⟨ep, L⟩ := hd.at_ (g.sub _ _ ga)
    obtain ⟨V, e1, e2⟩ := findD_val hl hv
    refine ⟨L.dictOf.typeIs, wpAny_getItem_of (knd := PySem.strKind Pw c.w) (k := k) (by simp [PySem.strKind, Value.isStrOf]) L.dictOf.mapOf e1 ⟨G, e2, Step.tok g _ _ (Nat.le_succ _)⟩⟩
  · split at hv
    · rename_i h; cases hv; exact EX_sub PySem.F.slot_str_getitem.lookup (h₁.run Γ _ ha) (h₂.run Γ _ hb) (GI_str h.1 h.2) hsub
    · cases hv
  · rename_i xs i
    split at hv
    · rename_i h
      have hi : i = ((i.toNat : Nat) : Int) := by omega
      have hb' := h₂.run Γ _ hb
      rw [hi] at hb'
      exact EX_sub list_getitem_lookup (h₁.run Γ _ ha) hb' (GI_list hv (by omega)) hsub
    · cases hv
  · cases hv⟩

theorem C1_try {body h₀ hs pos F} (h : CS c d ns env body F) : C1 c d ns env (.Try body (h₀ :: hs) [] [] pos) F := ⟨fun Γ o hv => ⟨fun A n₀ G s E rm S => by
  refine wpAny_Try_except (wm ((h.run Γ o hv).run A n₀ G s _ rm S) (fun fl s₁ hx => ?_))
  obtain ⟨G₁, ho, x₁⟩ := hx
  cases o with
  | next Γ' => obtain ⟨e, S₁⟩ := ho; subst e; exact wpAny_execs_nil ⟨G₁, ⟨rfl, S₁⟩, x₁⟩
  | brk Γ' => obtain ⟨e, S₁⟩ := ho; subst e; exact ⟨G₁, ⟨rfl, S₁⟩, x₁⟩
  | ret v => obtain ⟨V, e, hh⟩ := ho; subst e; exact ⟨G₁, ⟨V, rfl, hh⟩, x₁⟩⟩⟩
end
end

section
section
variable {c : Ctx0} {d : Nat} {ns : List (Str × NK)} {env : Env} {Γ : List Slot} {nm : List (Str × NameKind)}

theorem StV.obj_set {A n₀} {G : PH c.w} {s V} (S : StV c ns env Γ A n₀ G s V) {i : Nat} {sl sl' : Slot} {a : Addr} {o o' : Obj} {h' : Heap} {tk : Nat} (hi : Γ[i]? = some sl) (ho : sl.owned = true) (hV : V i = some (.ref a)) (hG : G a = none) (hL : a ≠ env.locals) (hn : ¬ n₀ a)
    (e : s.heap.get? a = some o) (hd : (∀ vs, o.data ≠ .fields vs) ∧ ∀ v, o.data ≠ .cell v) (hs : Heap.SameBut a s.heap h') (e' : h'.get? a = some o') (hd' : ∀ vs, o'.data ≠ .fields vs) (htk : s.toks ≤ tk) (ho' : sl'.owned = true) (hsl : SlotR env.locals A n₀ G h' V sl' (some (.ref a))) :
    StV c ns env (Γ.set i sl') A n₀ G { s with heap := h', toks := tk } V ∧ Step A n₀ G s G { s with heap := h', toks := tk } := by
  have g' := S.gs.change (tk := tk) hs hG ⟨o, o', e, e', hd.1, hd'⟩ htk
  have ne : ∀ {b : Addr} {ob : Obj}, s.heap.get? b = some ob → b ≠ a → h'.get? b = some ob := fun eb hb => (hs.2 _ hb).trans eb
  refine ⟨⟨g', S.base, fun b hb => sb_alive hs ⟨o', e'⟩ (S.bel b hb), S.fsl, ?_, S.lL, ?_, ?_, ?_⟩, Step.change S.gs g' hs hn htk⟩
  · obtain ⟨m, h, hm⟩ := S.loc
    exact ⟨m, h.sameBut hs (Ne.symm hL), hm⟩
  · intro j x k hj hk
    obtain ⟨b, h1, ⟨ob, e1, e2⟩, h3⟩ := S.cel j x k hj hk
    have : b ≠ a := fun q => by rw [q, e] at e1; cases e1; exact hd.2 _ e2
    exact ⟨b, h1, ⟨ob, ne e1 this, e2⟩, h3⟩
  · intro j y hj
    rcases set_get hj with ⟨rfl, rfl⟩ | ⟨nj, hj⟩
    · rw [hV]; exact hsl
    · have z := S.slot j y hj
      have far : y.owned = true → ∀ b, V j = some (.ref b) → b ≠ a := fun hy b hb q => S.apart j i y sl nj hj hi hy ho (by rw [hb, hV, q])
      cases y with
      | un => trivial
      | val v => exact z
      | own xs => obtain ⟨b, vs, n, e1, g1, g2, g3, g4, g5, g6⟩ := z; exact ⟨b, vs, n, e1, g1, g2, g3, g4, ne g5 (far rfl b e1), g6⟩
      | odict xs => obtain ⟨b, vs, n, e1, g1, g2, g3, g4, g5, g6⟩ := z; exact ⟨b, vs, n, e1, g1, g2, g3, g4, ne g5 (far rfl b e1), g6⟩
      | meth id l => exact z
  · intro p q x y hpq hp hq hx hy
    have key : ∀ {r : Nat} {u : Slot}, (Γ.set i sl')[r]? = some u → u.owned = true → ∃ u₀, Γ[r]? = some u₀ ∧ u₀.owned = true := fun {r u} h hu => by
      rcases set_get h with ⟨rfl, rfl⟩ | ⟨_, h⟩
      · exact ⟨sl, hi, ho⟩
      · exact ⟨u, h, hu⟩
    obtain ⟨x₀, hx1, hx2⟩ := key hp hx
    obtain ⟨y₀, hy1, hy2⟩ := key hq hy
    exact S.apart p q x₀ y₀ hpq hx1 hy1 hx2 hy2

noncomputable def appF (i : Nat) (F : SF PV) : SF Out := fun Γ => match Γ[i]? with
  | some (.own xs) => (F Γ).bind fun v => if xs.length ≤ sizeLine then some (.next (Γ.set i (.own (xs ++ [v])))) else none
  | _ => none
set_option tactic.hygienic true in
theorem C1_append (K : EnvK ns nm env) {x : Str} {np apos cpos pos : Pos} {e : PySem.Expr} {F} {i : Nat} {k : NK} (hi : findN ns x 0 = some (i, k)) (h : CE c d ns env e F)
    (hbase : attributeBase (.Name x np) "append" env (eval (.Name x np) env) = eval (.Name x np) env)
    (hfew : ((backTo cpos (starEach [e] env)).all (fun x => !x.1) && (backToKw cpos (keywordEach [] env)).all (fun x => x.1.isSome)
      && decide (([e] : List PySem.Expr).length + ([] : List Keyword).length + (if ([] : List Keyword).isEmpty then 0 else 1) < 30)) = true)
    (hline : (apos.endLine == cpos.line) = true) (htrees : backTo cpos (starEach [e] env) = [(false, eval e env)])
    (hint : interactive env = false) (hsw : swapsWith (.Call (.Attribute (.Name x np) "append" apos) [e] [] cpos) none pos.line env = pure false) :
    C1 c d ns env (.Expr (.Call (.Attribute (.Name x np) "append" apos) [e] [] cpos) pos) (appF i F) := ⟨fun Γ o hv => by
  unfold appF at hv
  split at hv
  · rename_i xs hsl
    obtain ⟨v, hvv, hv1⟩ := bind_some hv
    split at hv1
    · rename_i hsz
      cases hv1
      refine ⟨fun A n₀ G s E rm S => wpAny_Expr ?_ hint hsw⟩
      obtain ⟨V, SV⟩ := S
      obtain ⟨a, vs, n, hy, g1, g2, g3, g4, g5, g6⟩ := SV.slot i _ hsl
      refine wpAny_Call_append hbase hfew hline htrees (wpAny_Name (loadVar K.ok (findN_get hi) SV hy ?_) (K.ok.dbg i x k (findN_get hi)))
      refine ⟨a, vs.toArray, rfl, ⟨_, n, g5, rfl, rfl, rfl⟩, ?_⟩
      refine wm ((h.run Γ v hvv).run A n₀ G s E rm ⟨V, SV⟩) (fun Y s₁ ⟨G₁, hh₁, x₁⟩ => ?_)
      have SV₁ := SV.step x₁
      obtain ⟨a', vs', n', hy', q1, q2, q3, q4, q5, q6⟩ := SV₁.slot i _ hsl
      rw [hy] at hy'; cases hy'
      have hve : vs' = vs := by
        have := x₁.keep a _ ⟨_, g5⟩ g5 (tab_not SV.gs.tab g5 (by intro vs h; cases h)) g3
        rw [q5] at this
        simp only [Option.some.injEq, Obj.mk.injEq, Data.seq.injEq, true_and, and_true] at this
        simpa using this.1
      subst hve
      refine wpAny_list_append_plain (items := vs'.toArray) ⟨n', q5⟩ (fun h' hl' hs' => ?_) (by simpa [q6.length] using hsz)
      obtain ⟨n'', e''⟩ := hl'
      have R := SV₁.obj_set (sl := .own xs) (sl' := .own (xs ++ [v])) (tk := s₁.toks) (o' := lobj (vs' ++ [Y]) n'') hsl rfl hy q1 q2 q4 q5 ⟨fun _ h => (by cases h), fun _ h => (by cases h)⟩ hs' (by simpa using e'') (fun _ h => by cases h) (Nat.le_refl _) rfl
        ⟨a, vs' ++ [Y], n'', rfl, q1, q2, q3, q4, by simpa using e'', q6.append (cons_of hh₁ rfl)⟩
      exact ⟨G₁, ⟨rfl, V, R.1⟩, (x₁.up (St.n0 ⟨V, SV⟩)).trans R.2⟩
    · cases hv1
  · cases hv⟩

noncomputable def putD : List (Str × PV) → Str → PV → List (Str × PV)
  | [], x, v => [(x, v)]
  | (k, u) :: r, x, v => if k = x then (k, v) :: r else (k, u) :: putD r x v
theorem putD_holds {w : World} {G : PH w} : ∀ {es : List (Str × PV)} {kvs : List (Str × Value)} {x : Str} {v : PV} {Y : Value}, HoldsD G es kvs → (kvs.map (·.1)).Nodup → Holds G v Y → HoldsD G (putD es x v) (stored kvs x Y)
  | [], kvs, x, v, Y, h, _, hv => by
    rw [show kvs = [] from h]
    exact ⟨Y, [], rfl, hv, rfl⟩
  | (k, u) :: r, kvs, x, v, Y, h, nd, hv => by
    obtain ⟨U, q, rfl, h1, h2⟩ := h
    obtain ⟨nd1, nd2⟩ := List.nodup_cons.mp nd
    unfold putD stored
    by_cases e : k = x
    · subst e
      have hq : q.map (fun kv => if kv.1 = k then (kv.1, Y) else kv) = q := map_eq_self fun p hp => by
        have : p.1 ≠ k := fun z => nd1 (List.mem_map.mpr ⟨p, hp, z⟩)
        simp [this]
      simp only [if_true, List.any_cons, decide_true, Bool.true_or, List.map_cons, hq]
      exact ⟨Y, q, rfl, hv, h2⟩
    · have ih := putD_holds (x := x) h2 nd2 hv
      unfold stored at ih
      rw [if_neg e]
      by_cases ha : (q.any fun kv => decide (kv.1 = x)) = true
      · rw [if_pos ha] at ih
        rw [if_pos (by simp [ha])]
        simp only [List.map_cons, e, if_false]
        exact ⟨U, _, rfl, h1, ih⟩
      · rw [if_neg ha] at ih
        rw [if_neg (by simpa [e] using ha)]
        exact ⟨U, _, rfl, h1, ih⟩
noncomputable def dstF (i : Nat) (I F : SF PV) : SF Out := fun Γ => (F Γ).bind fun v => match Γ[i]? with
  | some (.odict es) => (I Γ).bind fun x => match x with
    | .str k => if es.length ≤ sizeLine then some (.next (Γ.set i (.odict (putD es k v)))) else none
    | _ => none
  | _ => none
set_option tactic.hygienic true in
theorem C1_dstore (K : EnvK ns nm env) {x : Str} {np sp pos : Pos} {ie e : PySem.Expr} {I F} {i : Nat} {k : NK} (hi : findN ns x 0 = some (i, k)) (hI : CE c d ns env ie I) (h : CE c d ns env e F)
    (hs : swapsWith e (some (.Subscript (.Name x np) ie sp)) pos.line env = pure false) :
    C1 c d ns env (.Assign [.Subscript (.Name x np) ie sp] e pos) (dstF i I F) := ⟨fun Γ o hv => by
  obtain ⟨v, hvv, hv1⟩ := bind_some hv
  split at hv1
  · rename_i es hsl
    obtain ⟨y, hy, hv2⟩ := bind_some hv1
    split at hv2
    · rename_i key
      split at hv2
      · rename_i hsz
        cases hv2
        refine ⟨fun A n₀ G s E rm S => wpAny_Assign_Subscript ?_ hs⟩
        obtain ⟨V, SV⟩ := S
        refine wm ((h.run Γ v hvv).run A n₀ G s E rm ⟨V, SV⟩) (fun Y s₁ ⟨G₁, hh₁, x₁⟩ => ?_)
        have SV₁ := SV.step x₁
        obtain ⟨a, ob, kvs, hy₁, q1, q2, q3, q4, q5, ⟨q86, q6⟩, q7⟩ := SV₁.slot i _ hsl
        refine wpAny_Name (loadVar K.ok (findN_get hi) SV₁ hy₁ ?_) (K.ok.dbg i x k (findN_get hi))
        refine wm ((hI.run Γ _ hy).run A n₀ G₁ s₁ E rm ⟨V, SV₁⟩) (fun Z s₂ ⟨G₂, ⟨t, e₂⟩, x₂⟩ => ?_)
        subst e₂
        have SV₂ := SV₁.step x₂
        obtain ⟨a', ob', kvs', hy₂, r1, r2, r3, r4, r5, ⟨r86, r6⟩, r7⟩ := SV₂.slot i _ hsl
        rw [hy₁] at hy₂; cases hy₂
        obtain ⟨ep, L⟩ := r6.at_ r5
        have nd : (kvs'.map (·.1)).Nodup := by obtain ⟨_, _, _, _, _, _, nd⟩ := r6; exact nd
        refine wpAny_setItem_pairs (knd := PySem.strKind Pw c.w) (k := key) (by simp [PySem.strKind, Value.isStrOf]) L.dictOf (fun h' hl' hs' => ?_) (by rw [r7.length]; exact hsz)
        obtain ⟨o', es', ep', w1, w2, w3, w4, w5, w6⟩ := hl'
        have R := SV₂.obj_set (sl := .odict es) (sl' := .odict (putD es key v)) (tk := s₂.toks + 1) (o' := o') hsl rfl hy₁ r1 r2 r4 r5 ⟨r6.nf, fun cv => by obtain ⟨_, _, _, hd, _⟩ := r6; rw [hd]; intro h; cases h⟩ hs' w1 (fun _ h => by rw [w3] at h; cases h) (Nat.le_succ _) rfl
          ⟨a, o', _, rfl, r1, r2, r3, r4, w1, ⟨r86, es', ep', w2, w3, w4, w5, w6⟩, putD_holds r7 nd (hh₁.mono x₂.le)⟩
        exact ⟨G₂, ⟨rfl, V, R.1⟩, ((x₁.then x₂).up (St.n0 ⟨V, SV⟩)).trans R.2⟩
      · cases hv2
    · cases hv2
  · cases hv1⟩
end
end

section
open AutoSeq1 (wpAny_loadPart')
section
variable {prog : Program} {w : World} {A : Around} {E : Value → Shared → Prop} {s : Shared}
theorem isc_leaf {k : Value} {dep : Int} {tk : Tok} {Q : Fin → Shared → Prop} (hk : k = .int dep tk) (hq : Q (.done (.ret (.bool true))) s) :
    wpAny (model prog w) A (Builtin.«issubclass.nested» ⟨[.type "str", .type "str", k], []⟩) Q E s := by
  subst hk
  have hself : isSubtype (.type "str") (.type "str") = pure true := by rw [isSubtype_type]; kernel_rfl
  wp_delta
  with_reducible refine PySem.wpAny_bind ?_
  wp_delta
  with_reducible refine PySem.wpAny_pure ?_
  (with_reducible apply PySem.wpAny_ite_true); focus (rfl; done)
  with_reducible refine PySem.wpAny_bind ?_
  wp_delta
  rw [hself]
  with_reducible refine PySem.wpAny_bind ?_
  wp_delta
  with_reducible refine PySem.wpAny_pure ?_
  with_reducible refine PySem.wpAny_bind ?_
  wp_delta
  with_reducible refine PySem.wpAny_pure ?_
  (with_reducible apply PySem.wpAny_ite_true); focus (rfl; done)
  with_reducible refine PySem.wpAny_pure ?_
  wp_delta
  with_reducible refine PySem.wpAny_pure ?_
  assumption
theorem isc_call {k : Value} {dep : Int} {tk : Tok} {Q : Value → Shared → Prop} (hk : k = .int dep tk) (hq : Q (.bool true) s) :
    wpAny (model prog w) A (call (.builtin "issubclass.nested") [.type "str", .type "str", k]) Q E s := by
  refine Calls.call_function_entry (by decide +kernel) (by decide +kernel) PySem.F.entry_issubclass_nested (by unfold argsOk; kernel_rfl) ?_
  exact isc_leaf hk ⟨_, rfl, hq⟩
theorem isc_tuple {a : Addr} {vs : List Value} {n : Nat} {k : Value} {tk : Tok} {Q : Fin → Shared → Prop} (hk : k = .int 0 tk) (ha : s.heap.get? a = some { cls := .type "tuple", data := .seq (.type "str" :: vs).toArray n }) (hq : Q (.done (.ret (.bool true))) s) :
    wpAny (model prog w) A (Builtin.«issubclass.nested» ⟨[.type "str", .ref a, k], []⟩) Q E s := by
  subst hk
  have hT : s.TypeIs (.ref a) "tuple" := ⟨_, ha, rfl⟩
  unfold Builtin.«issubclass.nested»
  refine wpAny_bind (wpAny_typeOf hT ?_)
  rw [if_neg (by decide)]
  unfold Builtin.Builtins.unionMembers
  refine wpAny_bind (wpAny_bind (wpAny_typeOf hT ?_))
  rw [if_neg (by decide)]
  refine wpAny_pure ?_
  have hsub : isSubtype (.type "tuple") (.type "tuple") = pure true := by rw [isSubtype_type]; kernel_rfl
  refine wpAny_bind (wpAny_isInstance hT hsub ?_)
  simp only [if_true]
  rw [if_neg (by decide)]
  refine wpAny_bind (wpAny_seqItems ha rfl ?_)
  simp only [Option.getD_some]
  rw [List.forIn_toArray, List.forIn_cons]
  refine wpAny_bind (wpAny_bind (wpAny_bind (isc_call rfl ?_)))
  refine wpAny_bind (wpAny_truthy_bool ?_)
  simp only [if_true]
  exact wbp (wpAny_pure (wpAny_pure (wpAny_pure hq)))
theorem isc_all {a : Addr} {vs : List Value} {n : Nat} {Q : Value → Shared → Prop} (ha : s.heap.get? a = some { cls := .type "tuple", data := .seq (.type "str" :: vs).toArray n }) (hq : Q (.bool true) s) :
    wpAny (model prog w) A (call (.builtin "issubclass") [.type "str", .ref a]) Q E s := by
  refine call_function_meets (S := fun _ R s => s.heap.get? a = some { cls := .type "tuple", data := .seq (.type "str" :: vs).toArray n } ∧ R (.ok (.ret (.bool true))) s) PySem.F.kind_issubclass PySem.F.plain_issubclass PySem.F.entry_issubclass (PySem.F.args_issubclass_2 _ _) (fun prog w A R s h => ?_) ⟨ha, hq⟩
  exact issubclass_outer (isc_tuple rfl h.1 h.2)
end
section
variable {c : Ctx0} {d : Nat}
noncomputable def issubP (args : List PV) : Option PV := (args2 args).bind fun p => (aTy p.1).bind fun n => (aTup p.2).bind fun l => (argsC l).bind fun q => (aTy q.1).bind fun m => if n = "str" ∧ m = "str" then some (.bool true) else none
theorem FF_issubclass : FF c d (.builtin "issubclass") issubP := ⟨fun args v h => by
  obtain ⟨p, hp, h⟩ := bind_some h
  obtain ⟨n, hn, h⟩ := bind_some h
  obtain ⟨l, hl, h⟩ := bind_some h
  obtain ⟨q, hq, h⟩ := bind_some h
  obtain ⟨m, hm, h⟩ := bind_some h
  by_cases e : n = "str" ∧ m = "str"
  · rw [if_pos e] at h
    cases h
    refine ⟨fun A G s Vs E _ g _ hh => ?_⟩
    rw [args2_eq hp, aTy_eq hn, aTup_eq hl, argsC_eq hq, aTy_eq hm, e.1, e.2] at hh
    obtain ⟨_, _, rfl, rfl, _, _, rfl, ⟨a, vs, n, rfl, ga, hl⟩, rfl⟩ := hh
    obtain ⟨_, r, rfl, rfl, _⟩ := hl
    exact isc_all (g.sub _ _ ga) ⟨G, rfl, Step.refl g⟩
  · rw [if_neg e] at h
    cases h⟩
theorem Gl_issubclass (K : Kc c) : Gl c d "issubclass" issubP := ⟨_, K.gv (by decide +kernel) (by decide +kernel), .builtin _, FF_issubclass⟩
theorem CE_type (K0 : Kc c) {ns : List (Str × NK)} {nm : List (Str × NameKind)} {env : Env} (K : EnvK ns nm env) {x : Str} {pos : Pos} {T : String} (hk : nm.lookup x = some .globalImplicit) (hd : (x == ("__debug__" : Str)) = false)
    (hx : (["len", "isinstance", "issubclass", "type", "str", "bytes", "int", "list", "sorted", "sum", "object", "range", "enumerate", "zip", "dict", "ValueError", "TypeError", "AttributeError", "BytesWarning"] : List Str).contains x = true) (h : bootBuiltins x = some (.type T)) :
    CE c d ns env (.Name x pos) (fun _ => some (.raw (.type T))) := ⟨fun Γ v hv => by
  cases hv
  exact EX_glob K0.toCok K.ok (kind_glob K hk) (K0.gv hx h) hd⟩
end
end

section
noncomputable def fnOk (ns : List (Str × NK)) (names : List (Str × NameKind)) (ps : List Str) : Bool :=
  decide ((ns.map (·.1)).Nodup) && decide ps.Nodup && ns.all (fun x => !(x.1 == ("__debug__" : Str)) && match x.2 with
    | .loc => names.lookup x.1 == some .local
    | .own => names.lookup x.1 == some .cell
    | .cap => false) && (ns.map (·.1)).take ps.length == ps
structure FnOK (ns : List (Str × NK)) (names : List (Str × NameKind)) (ps : List Str) : Prop where
  nd : (ns.map (·.1)).Nodup
  ndp : ps.Nodup
  each : ∀ (i : Nat) x k, ns[i]? = some (x, k) → (x == ("__debug__" : Str)) = false ∧ (k = .loc ∧ names.lookup x = some .local ∨ k = .own ∧ names.lookup x = some .cell)
  ps : ∀ (i : Nat) x, ps[i]? = some x → ∃ k, ns[i]? = some (x, k)
theorem FnOK.of {ns names ps} (h : fnOk ns names ps = true) : FnOK ns names ps := by
  unfold fnOk at h
  simp only [Bool.and_eq_true, decide_eq_true_eq, List.all_eq_true, beq_iff_eq] at h
  obtain ⟨⟨⟨h1, h2⟩, h3⟩, h4⟩ := h
  refine ⟨h1, h2, fun i x k hi => ?_, fun i x hi => ?_⟩
  · have := h3 _ (List.mem_of_getElem? hi)
    simp only [Bool.and_eq_true, Bool.not_eq_true'] at this
    refine ⟨this.1, ?_⟩
    have h5 := this.2
    cases k with
    | loc => exact .inl ⟨rfl, by simpa using h5⟩
    | own => exact .inr ⟨rfl, by simpa using h5⟩
    | cap => cases h5
  · rw [← h4] at hi
    rw [List.getElem?_take] at hi
    split at hi
    · rw [List.getElem?_map] at hi
      cases e : ns[i]? with
      | none => rw [e] at hi; cases hi
      | some p => rw [e] at hi; cases hi; exact ⟨p.2, rfl⟩
    · cases hi
theorem FnOK.env {ns ps} {fd : FuncData} (h : FnOK ns fd.scope.names ps) (hk : fd.scope.kind = .function) (hg : fd.globals = mainGlobals) (hb : fd.builtins = builtinsNs) (L f : Addr) : EnvK ns fd.scope.names (callEnvC fd L f) := by
  refine ⟨⟨hk, fun i x hi => ?_, fun i x hi => ?_, fun i x hi => ?_, h.nd, fun i x k hi => (h.each i x k hi).1, ?_, hg, hb⟩, fun _ => rfl, ?_⟩
  · rcases (h.each i x _ hi).2 with ⟨_, e⟩ | ⟨e, _⟩
    · exact e
    · cases e
  · rcases (h.each i x _ hi).2 with ⟨e, _⟩ | ⟨_, e⟩
    · cases e
    · exact e
  · rcases (h.each i x _ hi).2 with ⟨e, _⟩ | ⟨e, _⟩ <;> cases e
  · show (cellsFrom (L + 1) fd.scope.names []).Pairwise _
    have key : ∀ (names : List (Str × NameKind)) (n : Nat) (acc : List (Str × Addr)), acc.Pairwise (fun x y => x.2 ≠ y.2) → (∀ x ∈ acc, x.2 < n) → (cellsFrom n names acc).Pairwise fun x y => x.2 ≠ y.2 := by
      intro names
      induction names with
      | nil => intro n acc h _; exact h
      | cons x r ih =>
        intro n acc h hl
        obtain ⟨m, k⟩ := x
        unfold cellsFrom
        split
        · refine ih (n + 1) _ (List.pairwise_cons.mpr ⟨fun y hy => Nat.ne_of_gt (hl y hy), h⟩) fun x hx => ?_
          rcases List.mem_cons.mp hx with rfl | hx
          · exact Nat.lt_succ_self _
          · exact Nat.lt_succ_of_lt (hl x hx)
        · exact ih n acc h hl
    exact key _ _ _ List.Pairwise.nil (by simp)
  · have e : (callEnvC fd L f).scope.kind = .function := hk
    unfold Env.blockKind
    rw [e]; rfl

noncomputable def fnF (n k : Nat) (F : SF Out) : List PV → Option PV := fun args => if args.length = n then (F (start args k)).bind fun o => match o with
  | .ret v => some v
  | _ => none
  else none

theorem Gl_def {c : Ctx0} {d : Nat} (K : Kc c) {dd : DefRec} (hdd : dd ∈ recsOf Pw) (ns : List (Str × NK)) (ps : List Str) (k : Nat) {F : SF Out} (hok : fnOk ns dd.scope.names ps = true) (hkind : dd.scope.kind = .function)
    (hco : dd.scope.isCoroutine = false) (hgen : dd.scope.isGenerator = false)
    (hbind : ∀ (pm cd doc : Value) (Vs : List Value), Vs.length = ps.length → bindArgs (Calls.docDef dd.name dd.params dd.body dd.scope pm cd doc) ⟨Vs, []⟩ = pure (ps.zip Vs))
    (hb : ∀ env, EnvK ns dd.scope.names env → CS c d ns env dd.body F) : Gl c (d + 1) dd.name (fnF ps.length k F) := by
  obtain ⟨a, o, pm, code, doc, h1, h2, h3, h4⟩ := K.fn dd hdd
  refine ⟨.ref a, .inl h1, .fn h2 h3, ⟨fun args v h => ?_⟩⟩
  have O := FnOK.of hok
  unfold fnF at h
  split at h
  · rename_i hl
    obtain ⟨out, ho, h⟩ := bind_some h
    cases out with
    | next _ => cases h
    | brk _ => cases h
    | ret v' =>
      cases h
      have D : DefAt c a (Calls.docDef dd.name dd.params dd.body dd.scope pm code doc) := ⟨⟨o, h2, h3⟩, h4, rfl, rfl, rfl⟩
      refine FN_def K.toCok ps k D rfl O.ps (fun i x kk hi => ?_) O.ndp hl (hbind pm code doc) (fun L => (O.env hkind rfl rfl L a).ok) (fun L i x hi => ?_) (fun L => (hb _ (O.env (fd := Calls.docDef dd.name dd.params dd.body dd.scope pm code doc) hkind rfl rfl L a)).run _ _ ho) hco hgen
      · rcases (O.each i x kk hi).2 with ⟨e, _⟩ | ⟨e, _⟩ <;> (rw [e]; decide)
      · rcases (O.each i x _ hi).2 with ⟨e, _⟩ | ⟨_, e⟩
        · cases e
        · have := (cellsFrom_gen dd.scope.names { objs := Array.replicate (L + 1) default } []).2.1 x (mem_of_lookup e)
          rw [show ({ objs := Array.replicate (L + 1) default } : Heap).objs.size = L + 1 by simp] at this
          exact this
  · cases h

noncomputable def recK (k : Nat) : DefRec := match Pw.main.body[k]? with
  | some (.FunctionDef name a b _ _ _ sc _ _ pos) => ⟨name, a, b, sc, pos⟩
  | _ => ⟨"", default, [], default, default⟩
noncomputable def recIx : List Nat := [1, 4, 5, 8, 11, 13, 14, 16, 21, 23, 25, 27, 28, 29, 30, 32, 33, 34, 35, 36, 37, 38, 39, 40, 41, 42, 43]
theorem recs_eq : recsOf Pw = recIx.map recK := by kernel_rfl
theorem recK_mem {k : Nat} (h : k ∈ recIx) : recK k ∈ recsOf Pw := recs_eq ▸ List.mem_map_of_mem h
end

section
theorem FN.up {c d d' f args v} (h : FN c d f args v) (hd : d ≤ d') : FN c d' f args v := ⟨fun A G s Vs E r g b hh => h.run A G s Vs E (r.less hd) g b hh⟩
theorem Gl.up {c d d' x F} (h : Gl c d x F) (hd : d ≤ d') : Gl c d' x F := by
  obtain ⟨V, h1, h2, h3⟩ := h.at_
  exact ⟨V, h1, h2, ⟨fun args v e => (h3.run args v e).up hd⟩⟩
theorem len2 {α : Type} {l : List α} (h : l.length = 2) : ∃ a b, l = [a, b] := match l, h with | [a, b], _ => ⟨a, b, rfl⟩
theorem len3 {α : Type} {l : List α} (h : l.length = 3) : ∃ a b c, l = [a, b, c] := match l, h with | [a, b, c], _ => ⟨a, b, c, rfl⟩
theorem len4 {α : Type} {l : List α} (h : l.length = 4) : ∃ a b c d, l = [a, b, c, d] := match l, h with | [a, b, c, d], _ => ⟨a, b, c, d, rfl⟩
section
variable {c : Ctx0} {d : Nat} {ns : List (Str × NK)} {env : Env} {Γ : List Slot} {nm : List (Str × NameKind)}
structure SMV (c : Ctx0) (name : Str) (f : List PV → Option PV) : Prop where
  at_ : ∃ id, PySem.Slot "str" name id ∧ typeOf (.builtin id) = pure (.type "method_descriptor") ∧ ∀ d, FFV c d (.builtin id) f
theorem SMV_join : SMV c "join" joinP := ⟨_, PySem.F.slot_str_join, PySem.F.type_str_join, fun _ => FFV_join⟩
noncomputable def strThenT (F : SF PV) (G : SF PV) (f : List PV → Option PV) : SF PV := fun Γ => (F Γ).bind fun o => match o with
  | .str x => (G Γ).bind fun v => f [.str x, v]
  | _ => none
theorem CE_methT {o : PySem.Expr} {name : Str} {apos pos : Pos} {arg : PySem.Expr} {F G f} (m : SMV c name f) (h₁ : CE c d ns env o F) (h₂ : CT c d ns env arg G)
    (hbase : attributeBase o name env (eval o env) = eval o env) (hline : (apos.endLine == pos.line) = true)
    (hs : starEach [arg] env = (false, eval arg env) :: starEach [] env)
    (hfew : ((backTo pos (starEach [arg] env)).all (fun x => !x.1) && (backToKw pos (keywordEach [] env)).all (fun x => x.1.isSome)
      && decide (([arg] : List PySem.Expr).length + ([] : List Keyword).length + (if ([] : List Keyword).isEmpty then 0 else 1) < 30)) = true) :
    CE c d ns env (.Call (.Attribute o name apos) [arg] [] pos) (strThenT F G f) := ⟨fun Γ v hv => by
  obtain ⟨a, ha, hv⟩ := bind_some hv
  obtain ⟨id, sl, ty, ff⟩ := m.at_
  split at hv
  · obtain ⟨u, hu, hv⟩ := bind_some hv
    refine ⟨fun A n₀ G s E rm S => ?_⟩
    refine wpAny_Call_method_lateS hbase hfew hline (wm ((h₁.run Γ _ ha).run A n₀ G s E rm S) (fun V₁ s₁ ⟨G₁, ⟨t, hh₁⟩, x₁⟩ => ?_))
    subst hh₁
    have S₁ := S.step x₁
    refine ⟨"str", id, PySem.F.plainAttrs_str, sl, ty, typeIs_str _ _ _, (fun _ e => nomatch e), ?_⟩
    refine callWith_go (c := c) (.builtin id) (by rw [hs]; rfl) (PyProof.Rows.args_cons (wm ((h₂.run Γ u hu).run A n₀ G₁ s₁ E rm S₁) (fun V₂ s₂ ⟨G₂, hh₂, x₂⟩ => ?_)) hs)
    have S₂ := S₁.step x₂
    refine wpAny_items_nil ⟨S₂.gs.up, wm (((ff d).run _ v hv).run A (Vis A s₂.heap) G₂ s₂ [.str _ t, V₂] E rm S₂.gs S₂.big (fun _ _ => Vis.sub) ⟨_, _, rfl, ⟨t, rfl⟩, _, _, rfl, hh₂, rfl⟩) (fun V₃ s₃ ⟨G₃, hh₃, x₃⟩ => ⟨G₃, hh₃, (x₁.then x₂).then x₃⟩)⟩
  · cases hv⟩
end

set_option maxHeartbeats 4000000
noncomputable def tr_sep : Σ' F : List PV → Option PV, ∀ c, Kc c → Gl c 1 "_get_sep" F := by
  refine' ⟨fnF 1 0 _, fun c K => ?_⟩
  rotate_left
  refine' (show Gl c 1 (recK 27).name (fnF 1 0 _) from ?_)
  apply Gl_def K (recK_mem (by decide)) [("path", .loc)] ["path"] 0 (by decide +kernel) (by decide +kernel) (by decide +kernel) (by decide +kernel)
  · intro pm cd doc Vs hl
    obtain ⟨x, rfl⟩ := List.length_eq_one_iff.mp hl
    rfl
  · intro env KE
    refine' CS_cons _ _
    apply C1_if
    apply CB_truth
    apply CE.t
    apply CE_call (Kc.toCok (by assumption)) (by assumption) (by decide +kernel) (by exact Gl_isinstance (by assumption))
    apply CL_cons
    apply CE_name (by assumption); rfl
    apply CL_cons
    apply CE_type (by assumption) (by assumption) <;> first | decide +kernel | rfl
    apply CL_nil
    intros; rfl
    intros; rfl
    rfl
    rfl
    intros; rfl
    intros; rfl
    apply CS_cons
    apply C1_ret
    apply CE_dead
    apply CS_nil
    apply CS_cons
    apply C1_ret
    apply CE_str
    apply CS_nil
    apply CS_nil
noncomputable def tr_fspath : Σ' F : List PV → Option PV, ∀ c, Kc c → Gl c 1 "fspath" F := by
  refine' ⟨fnF 1 3 _, fun c K => ?_⟩
  rotate_left
  refine' (show Gl c 1 (recK 23).name (fnF 1 3 _) from ?_)
  apply Gl_def K (recK_mem (by decide)) [("path", .loc), ("kind", .loc), ("hook", .loc), ("given", .loc)] ["path"] 3 (by decide +kernel) (by decide +kernel) (by decide +kernel) (by decide +kernel)
  · intro pm cd doc Vs hl
    obtain ⟨x, rfl⟩ := List.length_eq_one_iff.mp hl
    rfl
  · intro env KE
    refine' CS_cons _ _
    rotate_left 1
    refine' CS_cons _ _
    rotate_left 1
    exact CS_dead
    rotate_left 2
    apply C1_assign (EnvK.ok (by assumption))
    rfl
    rfl
    apply CE_call (Kc.toCok (by assumption)) (by assumption) (by decide +kernel) (by exact Gl_type (by assumption))
    apply CL_cons
    apply CE_name (by assumption); rfl
    apply CL_nil
    intros; rfl
    rfl
    rfl
    intros; rfl
    rfl
    apply C1_if
    apply CB_truth
    apply CE.t
    apply CE_call (Kc.toCok (by assumption)) (by assumption) (by decide +kernel) (by exact Gl_issubclass (by assumption))
    apply CL_cons
    apply CE_name (by assumption); rfl
    apply CL_cons
    apply CE_tuple
    apply CL_cons
    apply CE_type (by assumption) (by assumption) <;> first | decide +kernel | rfl
    apply CL_cons
    apply CE_type (by assumption) (by assumption) <;> first | decide +kernel | rfl
    apply CL_nil
    intros; rfl
    intros; rfl
    apply CL_nil
    intros; rfl
    intros; rfl
    rfl
    rfl
    intros; rfl
    intros; rfl
    apply CS_cons
    apply C1_ret
    apply CE_name (by assumption); rfl
    apply CS_nil
    apply CS_nil
noncomputable def tr_basename : Σ' F : List PV → Option PV, ∀ c, Kc c → Gl c 2 "basename" F := by
  refine' ⟨fnF 1 2 _, fun c K => ?_⟩
  rotate_left
  refine' (show Gl c 2 (recK 29).name (fnF 1 2 _) from ?_)
  apply Gl_def K (recK_mem (by decide)) [("p", .loc), ("sep", .loc), ("i", .loc)] ["p"] 2 (by decide +kernel) (by decide +kernel) (by decide +kernel) (by decide +kernel)
  · intro pm cd doc Vs hl
    obtain ⟨x, rfl⟩ := List.length_eq_one_iff.mp hl
    rfl
  · intro env KE
    refine' CS_cons _ _
    apply C1_assign (EnvK.ok (by assumption))
    rfl
    rfl
    apply CE_call (Kc.toCok (by assumption)) (by assumption) (by decide +kernel) (by exact Gl.up (tr_fspath.2 _ (by assumption)) (by decide))
    apply CL_cons
    apply CE_name (by assumption); rfl
    apply CL_nil
    intros; rfl
    rfl
    rfl
    intros; rfl
    rfl
    apply CS_cons
    apply C1_assign (EnvK.ok (by assumption))
    rfl
    rfl
    apply CE_call (Kc.toCok (by assumption)) (by assumption) (by decide +kernel) (by exact Gl.up (tr_sep.2 _ (by assumption)) (by decide))
    apply CL_cons
    apply CE_name (by assumption); rfl
    apply CL_nil
    intros; rfl
    rfl
    rfl
    intros; rfl
    rfl
    apply CS_cons
    apply C1_assign (EnvK.ok (by assumption))
    rfl
    rfl
    apply CE_bin (b := BOp_add)
    apply CE_meth SM_rfind
    apply CE_name (by assumption); rfl
    apply CL_cons
    apply CE_name (by assumption); rfl
    apply CL_nil
    intros; rfl
    rfl
    rfl
    intros; rfl
    intros; rfl
    apply CE_int
    rfl
    apply CS_cons
    apply C1_ret
    apply CE_slice
    apply CE_name (by assumption); rfl
    apply CO_some
    apply CE_name (by assumption); rfl
    apply CO_none
    apply CS_nil
end

section
noncomputable def nsOf (names : List (Str × NameKind)) : List (Str × NK) := names.filterMap fun x => if x.1 == (".0" : Str) then none else match x.2 with
  | .local => some (x.1, .loc)
  | .cell => some (x.1, .own)
  | .free => some (x.1, .cap)
  | _ => none
noncomputable def mkCaps (ns ns' : List (Str × NK)) : List (Option Nat) := ns'.map fun x => match x.2 with
  | .cap => (findN ns x.1 0).map (·.1)
  | _ => none
section
variable {c : Ctx0} {d : Nat} {ns : List (Str × NK)} {env : Env} {Γ : List Slot} {nm : List (Str × NameKind)}
theorem CE_compA1 (K : EnvK ns nm env) {scope : Scope} {x : Str} {np pos : Pos} {iter elt : PySem.Expr} {ifs : List PySem.Expr} {j : Nat} {k : NK} {L : SF (List PV)} {T : SF Bool} {F : SF PV}
    (C0 : compOk ns (nsOf scope.names) scope.names (mkCaps ns (nsOf scope.names)) = true) (hkind : scope.kind = .function) (hj : findN (nsOf scope.names) x 0 = some (j, k)) (hk : (k != .cap) = true) (hL : CI1 c d ns env iter L)
    (hts : ∀ cenv, EnvK (nsOf scope.names) (relN nm scope.names) cenv → CTs c d (nsOf scope.names) cenv ifs T) (hel : ∀ cenv, EnvK (nsOf scope.names) (relN nm scope.names) cenv → CE c d (nsOf scope.names) cenv elt F)
    (hs : ∀ x, foldedSetIterable iter env x = pure x) : CE c d ns env (.ListComp elt [⟨.Name x np, iter, ifs, 0⟩] scope pos) (compF (bd1 j) (mkCaps ns (nsOf scope.names)) L T F) := CE_comp1 K C0 hkind hj hk hL hts hel hs
theorem CE_compA2 (K : EnvK ns nm env) {scope : Scope} {x y : Str} {p1 p2 tp pos : Pos} {kk : Nat} {iter elt : PySem.Expr} {ifs : List PySem.Expr} {j l : Nat} {k k' : NK} {L : SF (List PV)} {T : SF Bool} {F : SF PV}
    (C0 : compOk ns (nsOf scope.names) scope.names (mkCaps ns (nsOf scope.names)) = true) (hkind : scope.kind = .function) (hj : findN (nsOf scope.names) x 0 = some (j, k)) (hk : (k != .cap) = true) (hl : findN (nsOf scope.names) y 0 = some (l, k')) (hk' : (k' != .cap) = true) (hL : CI2 c d ns env iter L)
    (hts : ∀ cenv, EnvK (nsOf scope.names) (relN nm scope.names) cenv → CTs c d (nsOf scope.names) cenv ifs T) (hel : ∀ cenv, EnvK (nsOf scope.names) (relN nm scope.names) cenv → CE c d (nsOf scope.names) cenv elt F)
    (hs : ∀ x, foldedSetIterable iter env x = pure x) : CE c d ns env (.ListComp elt [⟨.Tuple [.Name x p1, .Name y p2] kk tp, iter, ifs, 0⟩] scope pos) (compF (bd2 j l) (mkCaps ns (nsOf scope.names)) L T F) := CE_comp2 K C0 hkind hj hk hl hk' hL hts hel hs
theorem C1_asgA1 (K : EnvK ns nm env) {scope : Scope} {x t : Str} {np pos tp sp : Pos} {iter elt : PySem.Expr} {ifs : List PySem.Expr} {i j : Nat} {k ki : NK} {L : SF (List PV)} {T : SF Bool} {F : SF PV}
    (hi : findN ns t 0 = some (i, ki)) (hki : (ki != .cap) = true) (hsw : swapsP nm t tp pos scope.names = true)
    (C0 : compOk ns (nsOf scope.names) scope.names (mkCaps ns (nsOf scope.names)) = true) (hkind : scope.kind = .function) (hj : findN (nsOf scope.names) x 0 = some (j, k)) (hk : (k != .cap) = true) (hL : CI1 c d ns env iter L)
    (hts : ∀ cenv, EnvK (nsOf scope.names) (relN nm scope.names) cenv → CTs c d (nsOf scope.names) cenv ifs T) (hel : ∀ cenv, EnvK (nsOf scope.names) (relN nm scope.names) cenv → CE c d (nsOf scope.names) cenv elt F)
    (hs : ∀ x, foldedSetIterable iter env x = pure x) : C1 c d ns env (.Assign [.Name t tp] (.ListComp elt [⟨.Name x np, iter, ifs, 0⟩] scope pos) sp) (fun Γ => (compF (bd1 j) (mkCaps ns (nsOf scope.names)) L T F Γ).map fun v => .next ((clr i Γ).set i (.val v))) :=
  C1_asgcomp1 K hi hki hsw C0 hkind hj hk hL hts hel hs
theorem C1_assignC (K : EnvK ns nm env) {elt : PySem.Expr} {gens : List Comprehension} {scope : Scope} {p : Pos} {x : Str} {np pos : Pos} {F} {i : Nat} {k : NK} (hi : findN ns x 0 = some (i, k)) (hk : (k != .cap) = true) (hsw : swapsP nm x np p scope.names = false) (h : CE c d ns env (.ListComp elt gens scope p) F) :
    C1 c d ns env (.Assign [.Name x np] (.ListComp elt gens scope p) pos) (asg i F) := C1_assign K.ok hi hk h ((swaps_eq K).trans (by rw [hsw]))
end
set_option maxHeartbeats 8000000
noncomputable def tr_dirname : Σ' F : List PV → Option PV, ∀ c, Kc c → Gl c 2 "dirname" F := by
  refine' ⟨fnF 1 3 _, fun c K => ?_⟩
  rotate_left
  refine' (show Gl c 2 (recK 30).name (fnF 1 3 _) from ?_)
  apply Gl_def K (recK_mem (by decide)) [("p", .loc), ("sep", .loc), ("i", .loc), ("head", .loc)] ["p"] 3 (by decide +kernel) (by decide +kernel) (by decide +kernel) (by decide +kernel)
  · intro pm cd doc Vs hl
    obtain ⟨x, rfl⟩ := List.length_eq_one_iff.mp hl
    rfl
  · intro env KE
    refine' CS_cons _ _
    apply C1_assign (EnvK.ok (by assumption)) (by rfl) (by rfl) (hs := by rfl)
    apply CE_call (Kc.toCok (by assumption)) (by assumption) (by decide +kernel) (by exact Gl.up (tr_fspath.2 _ (by assumption)) (by decide))
    apply CL_cons
    apply CE_name (by assumption); rfl
    apply CL_nil
    intros; rfl
    rfl
    rfl
    intro cenv KE
    rfl
    apply CS_cons
    apply C1_assign (EnvK.ok (by assumption)) (by rfl) (by rfl) (hs := by rfl)
    apply CE_call (Kc.toCok (by assumption)) (by assumption) (by decide +kernel) (by exact Gl.up (tr_sep.2 _ (by assumption)) (by decide))
    apply CL_cons
    apply CE_name (by assumption); rfl
    apply CL_nil
    intros; rfl
    rfl
    rfl
    intro cenv KE
    rfl
    apply CS_cons
    apply C1_assign (EnvK.ok (by assumption)) (by rfl) (by rfl) (hs := by rfl)
    apply CE_bin (b := BOp_add)
    apply CE_meth SM_rfind
    apply CE_name (by assumption); rfl
    apply CL_cons
    apply CE_name (by assumption); rfl
    apply CL_nil
    intros; rfl
    rfl
    rfl
    intro cenv KE
    rfl
    intro cenv KE
    rfl
    apply CE_int
    apply CS_cons
    apply C1_assign (EnvK.ok (by assumption)) (by rfl) (by rfl) (hs := by rfl)
    apply CE_slice
    apply CE_name (by assumption); rfl
    apply CO_none
    apply CO_some
    apply CE_name (by assumption); rfl
    apply CS_cons
    apply C1_if
    apply CB_and
    apply CB_truth
    apply CT_name (by assumption); rfl
    intro cenv KE
    rfl
    apply CB_cmp (b := COp_ne)
    apply CT_name (by assumption); rfl
    apply CE.t
    apply CE_bin (b := BOp_mul)
    apply CE_name (by assumption); rfl
    apply CE_callT (Kc.toCok (by assumption)) (by assumption) (by decide +kernel) (GlV_len (by assumption))
    apply CT_name (by assumption); rfl
    rfl
    rfl
    rfl
    rfl
    apply CS_cons
    apply C1_assign (EnvK.ok (by assumption)) (by rfl) (by rfl) (hs := by rfl)
    apply CE_meth SM_rstrip
    apply CE_name (by assumption); rfl
    apply CL_cons
    apply CE_name (by assumption); rfl
    apply CL_nil
    intros; rfl
    rfl
    rfl
    intro cenv KE
    rfl
    intro cenv KE
    rfl
    apply CS_nil
    apply CS_nil
    apply CS_cons
    apply C1_ret
    apply CE_name (by assumption); rfl
    apply CS_nil
noncomputable def tr_law_choices : Σ' F : List PV → Option PV, ∀ c, Kc c → Gl c 1 "_law_choices" F := by
  refine' ⟨fnF 1 2 _, fun c K => ?_⟩
  rotate_left
  refine' (show Gl c 1 (recK 32).name (fnF 1 2 _) from ?_)
  apply Gl_def K (recK_mem (by decide)) [("signs", .loc), ("choices", .loc), ("sign", .own)] ["signs"] 2 (by decide +kernel) (by decide +kernel) (by decide +kernel) (by decide +kernel)
  · intro pm cd doc Vs hl
    obtain ⟨x, rfl⟩ := List.length_eq_one_iff.mp hl
    rfl
  · intro env KE
    refine' CS_cons _ _
    apply C1_assign (EnvK.ok (by assumption)) (by rfl) (by rfl) (hs := by rfl)
    apply CE_list
    apply CL_cons
    apply CE_str
    apply CL_nil
    intros; rfl
    apply CS_cons
    apply C1_for1 (EnvK.ok (by assumption)) (by rfl) (by decide)
    apply CI_val
    apply CE_name (by assumption); rfl
    apply CS_cons
    apply C1_assign (EnvK.ok (by assumption)) (by rfl) (by rfl) (hs := by rfl)
    apply CE_bin (b := BOp_add)
    apply CE_name (by assumption); rfl
    apply CE_compA1 (by assumption) (by decide +kernel) (by decide +kernel) (by rfl) (by rfl)
    apply CI_val
    apply CE_name (by assumption); rfl
    intro cenv KE
    apply CTs_nil
    intro cenv KE
    apply CE_bin (b := BOp_add)
    apply CE_name (by assumption); rfl
    apply CE_name (by assumption); rfl
    intros; rfl
    apply CS_nil
    intros; rfl
    apply CS_cons
    apply C1_ret
    apply CE_name (by assumption); rfl
    apply CS_nil
noncomputable def tr_law_bracket : Σ' F : List PV → Option PV, ∀ c, Kc c → Gl c 1 "_law_bracket" F := by
  refine' ⟨fnF 3 3 _, fun c K => ?_⟩
  rotate_left
  refine' (show Gl c 1 (recK 33).name (fnF 3 3 _) from ?_)
  apply Gl_def K (recK_mem (by decide)) [("signs", .loc), ("choice", .own), ("turn", .loc), ("barred", .own), ("inner", .own), ("body", .loc)] ["signs", "choice", "turn"] 3 (by decide +kernel) (by decide +kernel) (by decide +kernel) (by decide +kernel)
  · intro pm cd doc Vs hl
    obtain ⟨_, _, _, rfl⟩ := len3 hl
    rfl
  · intro env KE
    refine' CS_cons _ _
    apply C1_assign (EnvK.ok (by assumption)) (by rfl) (by rfl) (hs := by rfl)
    apply CE_and
    apply CE_cmp (b := COp_lt)
    apply CE.t
    apply CE_callT (Kc.toCok (by assumption)) (by assumption) (by decide +kernel) (GlV_len (by assumption))
    apply CT_name (by assumption); rfl
    rfl
    rfl
    rfl
    apply CE.t
    apply CE_callT (Kc.toCok (by assumption)) (by assumption) (by decide +kernel) (GlV_len (by assumption))
    apply CT_name (by assumption); rfl
    rfl
    rfl
    rfl
    rfl
    apply CE_or
    apply CE_cmp (b := COp_eq)
    apply CT_name (by assumption); rfl
    apply CE.t
    apply CE_str
    rfl
    apply CE_cmp (b := COp_eq)
    apply CE.t
    apply CE_bin (b := BOp_mod)
    apply CE_bin (b := BOp_add)
    apply CE_callT (Kc.toCok (by assumption)) (by assumption) (by decide +kernel) (GlV_len (by assumption))
    apply CT_name (by assumption); rfl
    rfl
    rfl
    rfl
    apply CE_name (by assumption); rfl
    apply CE_int
    apply CE.t
    apply CE_int
    rfl
    apply CS_cons
    apply C1_assignC (by assumption) (by rfl) (by rfl) (by rfl)
    apply CE_compA1 (by assumption) (by decide +kernel) (by decide +kernel) (by rfl) (by rfl)
    apply CI_val
    apply CE_name (by assumption); rfl
    intro cenv KE
    apply CTs_one
    apply CB_cmp (b := COp_ne)
    apply CE.t
    apply CE_cmp (b := COp_in)
    apply CT_name (by assumption); rfl
    apply CT_name (by assumption); rfl
    rfl
    apply CT_name (by assumption); rfl
    rfl
    intro cenv KE
    apply CE_name (by assumption); rfl
    intros; rfl
    apply CS_cons
    apply C1_assign (EnvK.ok (by assumption)) (by rfl) (by rfl) (hs := by rfl)
    apply CE_bin (b := BOp_add)
    apply CE_compA1 (by assumption) (by decide +kernel) (by decide +kernel) (by rfl) (by rfl)
    apply CI_val
    apply CE_str
    intro cenv KE
    apply CTs_one
    apply CB_cmp (b := COp_in)
    apply CT_name (by assumption); rfl
    apply CT_name (by assumption); rfl
    rfl
    intro cenv KE
    apply CE_name (by assumption); rfl
    intros; rfl
    apply CE_compA1 (by assumption) (by decide +kernel) (by decide +kernel) (by rfl) (by rfl)
    apply CI_val
    apply CE_name (by assumption); rfl
    intro cenv KE
    apply CTs_one
    apply CB_cmp (b := COp_notin)
    apply CT_name (by assumption); rfl
    apply CE.t
    apply CE_str
    rfl
    intro cenv KE
    apply CE_name (by assumption); rfl
    intros; rfl
    apply CS_cons
    apply C1_ret
    apply CE_bin (b := BOp_add)
    apply CE_bin (b := BOp_add)
    apply CE_if
    apply CB_truth
    apply CT_name (by assumption); rfl
    intro cenv KE
    rfl
    apply CE_str
    apply CE_str
    apply CE_methT SMV_join
    apply CE_str
    apply CE.t
    apply CE_bin (b := BOp_add)
    apply CE_name (by assumption); rfl
    apply CE_compA1 (by assumption) (by decide +kernel) (by decide +kernel) (by rfl) (by rfl)
    apply CI_val
    apply CE_str
    intro cenv KE
    apply CTs_one
    apply CB_cmp (b := COp_in)
    apply CT_name (by assumption); rfl
    apply CT_name (by assumption); rfl
    rfl
    intro cenv KE
    apply CE_name (by assumption); rfl
    intros; rfl
    rfl
    rfl
    rfl
    rfl
    apply CE_str
    apply CS_nil
end

section
theorem la_kind : builtinKind "list.append" = some Manifest.AttrKind.method := by decide +kernel
theorem la_get : typeLookup (.type "method_descriptor") "__get__" = pure (some (.builtin "method_descriptor.__get__")) := by rw [typeLookup_type, builtinLookup_eq_fast]; kernel_rfl
theorem la_set : typeLookup (.type "method_descriptor") "__set__" = pure none := by rw [typeLookup_type, builtinLookup_eq_fast]; kernel_rfl
theorem la_delete : typeLookup (.type "method_descriptor") "__delete__" = pure none := by rw [typeLookup_type, builtinLookup_eq_fast]; kernel_rfl
theorem la_slot : PySem.Slot "method_descriptor" "__get__" "method_descriptor.__get__" :=
  .of (owner := "method_descriptor") (n := "__get__") (by rw [typeLookup_type, builtinLookup_eq_fast]; kernel_rfl) (by decide +kernel) (by decide +kernel) (by decide +kernel)
    (by first | exact .inl (by decide +kernel) | exact .inr (by decide +kernel)) (by rw [isSubtype_type]; kernel_rfl)
theorem la_entry : entryFor table "method_descriptor.__get__" = some Builtin.«method_descriptor.__get__» := entryFor_of_tree (by kernel_rfl)
theorem la_args (a b d : Value) : argsOk "method_descriptor.__get__" ⟨[a, b, d], []⟩ := by unfold argsOk; kernel_rfl
theorem la_type : typeOf (.builtin "list.append") = pure (.type "method_descriptor") := PySem.F.type_list_append
theorem la_sub : isSubtype (.type "list") (.type "list") = pure true := by rw [isSubtype_type]; kernel_rfl
section
variable {prog : Program} {w : World} {A : Around} {E : Value → Shared → Prop} {s : Shared}
set_option maxHeartbeats 4000000 in
theorem meets_mget (a : Addr) (xs : Array Value) (k : Nat) :
    Meets (Builtin.«method_descriptor.__get__» ⟨[.builtin "list.append", .ref a, .type "list"], []⟩) (fun A R s => s.heap.get? a = some { cls := .type "list", dict := none, data := .seq xs k } ∧ R (.ok (.ret (.ref s.heap.objs.size))) { s with heap := s.heap.push (bmobj "list.append" a) }) :=
  Meets.of_wp fun prog w A R s hs => by
    obtain ⟨hp, g, d, tk, os⟩ := s
    obtain ⟨hx, hs⟩ := hs
    have hT : (⟨hp, g, d, tk, os⟩ : Shared).TypeIs (.ref a) "list" := ⟨_, hx, rfl⟩
    have f1 := la_sub
    have f2 : Manifest.toldItsClass.contains "list.append" = false := by decide +kernel
    unfold Builtin.«method_descriptor.__get__»
    with_reducible refine PySem.wpAny_bind ?_
    wp_delta
    (with_reducible apply PySem.wpAny_ite_false); focus (rfl; done)
    with_reducible refine PySem.wpAny_bind ?_
    with_reducible refine PySem.wpAny_pure ?_
    (with_reducible apply PySem.wpAny_ite_false); focus (rfl; done)
    with_reducible refine PySem.wpAny_pure ?_
    wp_delta
    rw [if_neg (by rw [f2]; decide)]
    wp_delta
    wp_delta
    with_reducible refine PySem.wpAny_bind ?_
    wp_delta
    with_reducible refine PySem.wpAny_bind ?_
    wp_delta
    with_reducible refine PySem.wpAny_pure ?_
    with_reducible refine PySem.wpAny_bind ?_
    wp_delta
    with_reducible refine PySem.wpAny_bind ?_
    with_reducible refine PySem.wpAny_typeOf (by assumption) ?_
    rw [show ".".intercalate ("list.append".cutAt '.').dropLast = "list" by decide +kernel, la_sub]
    with_reducible refine PySem.wpAny_pure ?_
    (with_reducible apply PySem.wpAny_ite_false); focus (rfl; done)
    with_reducible refine PySem.wpAny_pure ?_
    with_reducible refine PySem.wpAny_bind ?_
    wp_delta
    wp_delta
    (with_reducible apply PySem.wpAny_ite_false); focus (rfl; done)
    wp_delta
    wp_delta
    with_reducible refine PySem.wpAny_bind ?_
    with_reducible refine PySem.wpAny_alloc' ?_
    with_reducible refine PySem.wpAny_pure ?_
    wp_delta
    with_reducible refine PySem.wpAny_pure ?_
    exact ⟨_, rfl, hs⟩
set_option backward.match.sparseCases true in
set_option maxHeartbeats 4000000 in
theorem meets_ga (a : Addr) (xs : Array Value) (k : Nat) (u : Tok) :
    Meets (Builtin.«object.__getattribute__» ⟨[.ref a, .str "append" u], []⟩) (fun A R s => s.heap.get? a = some { cls := .type "list", dict := none, data := .seq xs k } ∧ R (.ok (.ret (.ref s.heap.objs.size))) { s with heap := s.heap.push (bmobj "list.append" a) }) :=
  Meets.of_wp fun prog w A R s hs => by
    obtain ⟨hp, g, d, tk, os⟩ := s
    obtain ⟨hx, hs⟩ := hs
    have hT : (⟨hp, g, d, tk, os⟩ : Shared).TypeIs (.ref a) "list" := ⟨_, hx, rfl⟩
    have f1 := slot_list_append.lookup
    have f2 := la_get
    have f3 := la_set
    have f4 := la_delete
    unfold Builtin.«object.__getattribute__»
    with_reducible refine PySem.wpAny_bind ?_
    wp_delta
    (with_reducible apply PySem.wpAny_ite_false); focus (rfl; done)
    (with_reducible apply PySem.wpAny_ite_false); focus (rfl; done)
    with_reducible refine PySem.wpAny_pure ?_
    with_reducible refine PySem.wpAny_bind ?_
    wp_delta
    with_reducible refine PySem.wpAny_pure ?_
    with_reducible refine PySem.wpAny_bind ?_
    with_reducible refine PySem.wpAny_typeOf (by assumption) ?_
    with_reducible refine PySem.wpAny_bind ?_
    wp_delta
    with_reducible refine PySem.wpAny_bind ?_
    with_reducible refine PySem.wpAny_of_eq (by assumption) ?_
    with_reducible refine PySem.wpAny_bind ?_
    wp_delta
    wp_delta
    with_reducible refine PySem.wpAny_bind ?_
    wp_delta
    wp_delta
    rw [la_kind]; dsimp only
    (with_reducible apply PySem.wpAny_ite_false); focus (rfl; done)
    wp_delta
    with_reducible refine PySem.wpAny_pure ?_
    with_reducible refine PySem.wpAny_of_eq (by assumption) ?_
    with_reducible refine PySem.wpAny_bind ?_
    wp_delta
    with_reducible refine PySem.wpAny_bind ?_
    wp_delta
    with_reducible refine PySem.wpAny_bind ?_
    wp_delta
    with_reducible refine PySem.wpAny_bind ?_
    wp_delta
    wp_delta
    rw [la_kind]; dsimp only
    (with_reducible apply PySem.wpAny_ite_false); focus (rfl; done)
    wp_delta
    with_reducible refine PySem.wpAny_pure ?_
    with_reducible refine PySem.wpAny_of_eq (by assumption) ?_
    (with_reducible apply PySem.wpAny_ite_false); focus (rfl; done)
    with_reducible refine PySem.wpAny_bind ?_
    wp_delta
    with_reducible refine PySem.wpAny_bind ?_
    wp_delta
    wp_delta
    rw [la_kind]; dsimp only
    (with_reducible apply PySem.wpAny_ite_false); focus (rfl; done)
    wp_delta
    with_reducible refine PySem.wpAny_pure ?_
    with_reducible refine PySem.wpAny_of_eq (by assumption) ?_
    with_reducible refine PySem.wpAny_pure ?_
    (with_reducible apply PySem.wpAny_ite_false); focus (rfl; done)
    with_reducible refine PySem.wpAny_pure ?_
    wp_delta
    wp_delta
    with_reducible refine PySem.wpAny_bind ?_
    wp_delta
    with_reducible refine PySem.wpAny_bind ?_
    wp_delta
    with_reducible refine PySem.wpAny_bind ?_
    wp_delta
    (with_reducible apply PySem.wpAny_loadPart'); focus (heap_get; done)
    wp_delta
    wp_delta
    with_reducible refine PySem.wpAny_bind ?_
    (with_reducible apply PySem.wpAny_loadPart'); focus (heap_get; done)
    (with_reducible apply PySem.wpAny_ite_true); focus (rfl; done)
    with_reducible refine PySem.wpAny_pure ?_
    wp_delta
    with_reducible refine PySem.wpAny_pure ?_
    with_reducible refine PySem.wpAny_bind ?_
    wp_delta
    (with_reducible apply PySem.wpAny_ite_false); focus (rfl; done)
    with_reducible refine PySem.wpAny_pure ?_
    wp_delta
    with_reducible refine PySem.wpAny_bind ?_
    with_reducible refine PySem.wpAny_rule ?_
    with_reducible refine PySem.wpAny_pure ?_
    wp_delta
    wp_delta
    with_reducible refine PySem.wpAny_bind ?_
    with_reducible refine PySem.wpAny_holding ?_
    with_reducible refine PySem.wpAny_call ?_
    refine codeAny_call_builtin la_slot.plain la_entry (la_slot.check _ _ _ _ _ _ _ _ (by first | exact la_type | exact ⟨_, la_type⟩ | trace_state) (la_args _ _ _) (meets_mget a xs k prog w A.in1 (fun r s' => match r with | .ok (.ret v) => wpAny (model prog w) A.in1 (ret v) (fun fin s' => ∃ v, fin = Fin.done (Flow.ret v) ∧ R (Except.ok (Flow.ret v)) s') (fun e s' => R (Except.error e) s') s' | .ok _ => False | .error e => R (.error e) s') _ ⟨hx, ?_⟩))
    exact wpAny_pure ⟨_, rfl, hs⟩

theorem getAttr_append {a : Addr} {xs : Array Value} {k : Nat} {Q : Value → Shared → Prop} (hx : s.heap.get? a = some { cls := .type "list", dict := none, data := .seq xs k })
    (hQ : ∀ tk, Q (.ref s.heap.objs.size) { s with heap := s.heap.push (bmobj "list.append" a), toks := tk }) : wpAny (model prog w) A (getAttr (.ref a) "append" true) Q E s := by
  obtain ⟨hp, g, d, tk, os⟩ := s
  have hT : ∀ tk', (⟨hp, g, d, tk', os⟩ : Shared).TypeIs (.ref a) "list" := fun _ => ⟨_, hx, rfl⟩
  have f3 := PySem.F.slot_list_getattribute.lookup
  have f4 := PySem.F.slot_list_getattribute.bind (.ref a)
  have f5 := am_list_getattr_none
  unfold getAttr getAttrBy
  with_reducible refine PySem.wpAny_bind ?_
  wp_delta
  with_reducible refine PySem.wpAny_bind ?_
  with_reducible refine PySem.wpAny_fresh' ?_
  with_reducible refine PySem.wpAny_pure ?_
  with_reducible refine PySem.wpAny_holding ?_
  with_reducible refine PySem.wpAny_bind ?_
  wp_delta
  with_reducible refine PySem.wpAny_bind ?_
  (with_reducible apply PySem.wpAny_loadPart'); focus (heap_get; done)
  with_reducible refine PySem.wpAny_pure ?_
  with_reducible refine PySem.wpAny_bind ?_
  with_reducible refine PySem.wpAny_of_eq (by assumption) ?_
  (with_reducible apply PySem.wpAny_ite_false); focus (rfl; done)
  wp_delta
  with_reducible refine PySem.wpAny_bind ?_
  wp_delta
  (with_reducible apply PySem.wpAny_ite_false); focus (rfl; done)
  with_reducible refine PySem.wpAny_pure ?_
  with_reducible refine PySem.wpAny_bind ?_
  with_reducible refine PySem.wpAny_attempt ?_
  with_reducible refine PySem.wpAny_holding ?_
  wp_delta
  (with_reducible apply PySem.wpAny_ite_false); focus (rfl; done)
  wp_delta
  with_reducible refine PySem.wpAny_bind ?_
  with_reducible refine PySem.wpAny_of_eq (by assumption) ?_
  (with_reducible show wpAny _ _ (call (Value.builtin "list.__getattribute__") _ _) _ _ _); refine call_meets PySem.F.slot_list_getattribute (hT _) am_entry_list_getattribute (PySem.F.args_list_getattribute_2 _ _) (meets_ga a xs k _) ⟨hx, ?_⟩
  exact wpAny_pure (hQ _)
end
end

section
section
variable {prog : Program} {w : World} {A : Around} {E : Value → Shared → Prop} {s : Shared}
theorem check_append (a : Addr) (x : Value) {xs : Array Value} {k : Nat} {Q : Unit → Shared → Prop} (hx : s.heap.get? a = some { cls := .type "list", data := .seq xs k }) (h : Q () s) : wpAny (model prog w) A (checkBoundCall "list.append" ⟨[.ref a, x], []⟩) Q E s := by
  have hT : s.TypeIs (.ref a) "list" := ⟨_, hx, rfl⟩
  unfold checkBoundCall
  have h1 : Manifest.signature? "list.append" = some ⟨.oneArg, "list.append", "append", .self, [⟨"object", .posOnly, true⟩]⟩ := by
    rw [signature?_of (id := "list.append") (n := ['d', 'n', 'e', 'p', 'p', 'a']) (o := ['t', 's', 'i', 'l']) (by kernel_rfl) PySem.F.owner_list]; kernel_rfl
  rw [h1, la_kind]
  dsimp only
  have sm : isSubtype (.type "list") (.type "module") = pure false := by rw [isSubtype_type]; kernel_rfl
  have st : isSubtype (.type "list") (.type "type") = pure false := by rw [isSubtype_type]; kernel_rfl
  have v1 : Manifest.varargsMethods.contains "list.append" = false := by decide +kernel
  have e1 : toString (Bind.lastOf "list") ++ toString "." ++ toString (Bind.lastOf "list.append") = "list.append" := by decide +kernel
  rw [if_neg (by decide)]
  refine wpAny_bind (wpAny_isInstance hT sm ?_)
  rw [v1]
  simp only [Bool.or_self, Bool.false_eq_true, if_false]
  with_reducible refine PySem.wpAny_bind ?_
  wp_delta
  with_reducible refine PySem.wpAny_bind ?_
  refine AutoSeq1.wpAny_loadPart' hx ?_
  with_reducible refine PySem.wpAny_pure ?_
  (with_reducible apply PySem.wpAny_ite_false); focus (rfl; done)
  with_reducible refine PySem.wpAny_bind ?_
  with_reducible refine PySem.wpAny_typeOf (by assumption) ?_
  wp_delta
  wp_delta
  with_reducible refine PySem.wpAny_bind ?_
  wp_delta
  (with_reducible apply PySem.wpAny_ite_true); focus (rfl; done)
  with_reducible refine PySem.wpAny_pure ?_
  with_reducible refine PySem.wpAny_bind ?_
  wp_delta
  (with_reducible apply PySem.wpAny_ite_true); focus (rfl; done)
  with_reducible refine PySem.wpAny_pure ?_
  wp_delta
  wp_delta
  with_reducible_and_instances refine PySem.wpAny_pure ?_
  assumption
theorem call_bound {a b : Addr} {x : Value} {xs : Array Value} {Q : Value → Shared → Prop} (hb : s.heap.get? b = some (bmobj "list.append" a)) (hl : s.heap.PlainList a xs)
    (hQ : ∀ h', h'.PlainList a (xs.push x) → Heap.SameBut a s.heap h' → Q .none { s with heap := h' }) (hsz : xs.size ≤ sizeLine) : wpAny (model prog w) A (call (.ref b) [x]) Q E s := by
  obtain ⟨n, ho⟩ := hl
  refine wpAny_call (codeAny_of_tree ?_)
  show wpAny _ _ (callAny (.ref b) _) _ _ _
  simp only [callAny]
  refine wpAny_bind (wpAny_load hb ?_)
  dsimp only
  rw [if_pos (by decide)]
  refine wpAny_bind ?_
  show wpAny _ _ (checkBoundCall "list.append" { pos := [Value.ref a, x] }) _ _ _
  refine check_append a x ho ?_
  refine wpAny_pure ⟨plainId_quiet slot_list_append.plain _, codeAny_builtin entry_list_append ?_⟩
  rw [Around.under_plainId slot_list_append.plain]
  show wpAny _ _ (updateSeq a (·.push x) >>= fun _ => ret .none) _ _ s
  refine wpAny_bind (wpAny_updateSeq ho rfl (wpAny_pure (hQ _ ⟨n + 1, ?_⟩ (Heap.SameBut.update ..))))
  rw [Heap.get?_update_self _ ho (by rw [Obj.mapSeq_push_plain]; rfl), Obj.mapSeq_push_plain]
theorem callWith_bound {pos : Pos} {a b : Addr} {args : List (Bool × Sem Value)} {Q : Value → Shared → Prop} (hp : args.any (·.1) = false)
    (h : wpAny (model prog w) A (spliced args) (fun vs s₁ => s₁.heap.get? b = some (bmobj "list.append" a) ∧ wpAny (model prog w) A (call (.ref b) vs) Q E s₁) E s) : wpAny (model prog w) A (callWith pos (.ref b) [] args []) Q E s := by
  unfold callWith
  refine wbh (evalArgs_all hp (wm h (fun vs s₁ h₁ => wbs ?_)))
  simp only [hp, List.any_nil, Bool.or_false, List.nil_append]
  refine wpAny_bind ?_
  unfold keeperOf
  refine wpAny_bind (wpAny_load h₁.1 ?_)
  refine wpAny_pure ?_
  exact wb h₁.2 (fun r s₂ hr => wbh (wpAny_point (wpAny_pure hr)))
end
section
variable {c : Ctx0} {d : Nat} {ns : List (Str × NK)} {env : Env} {Γ : List Slot} {nm : List (Str × NameKind)}
noncomputable def bmF (i j : Nat) : SF Out := fun Γ => match Γ[j]? with
  | some (.own _) => if i = j then none else some (.next ((clr i Γ).set i (.meth "list.append" j)))
  | _ => none
set_option tactic.hygienic true in
theorem C1_bmeth (K : EnvK ns nm env) {x y : Str} {yp np apos pos : Pos} {i j : Nat} {k k' : NK} (hi : findN ns y 0 = some (i, k)) (hk : (k != .cap) = true) (hj : findN ns x 0 = some (j, k'))
    (hs : swapsWith (.Attribute (.Name x np) "append" apos) (some (.Name y yp)) pos.line env = pure false) (hbase : attributeBase (.Name x np) "append" env (eval (.Name x np) env) = eval (.Name x np) env) :
    C1 c d ns env (.Assign [.Name y yp] (.Attribute (.Name x np) "append" apos) pos) (bmF i j) := ⟨fun Γ o hv => by
  unfold bmF at hv
  split at hv
  · rename_i xs hsl
    split at hv
    · cases hv
    · rename_i hij
      cases hv
      refine ⟨fun A n₀ G s E rm S => ?_⟩
      obtain ⟨V, SV⟩ := S
      obtain ⟨a, vs, n, hy, g1, g2, g3, g4, g5, g6⟩ := SV.slot j _ hsl
      rw [exec_Assign_Name _ _ _ _ _ hs]
      refine wbs (wpAny_bind ?_)
      rw [arm_eval_Attribute, hbase]
      refine wpAny_bind (wpAny_Name (loadVar K.ok (findN_get hj) SV hy ?_) (K.ok.dbg j x k' (findN_get hj)))
      refine wbs (wbh (wpAny_mono (wpAny_toks (getAttr_append (Q := fun v s' => v = .ref s.heap.objs.size ∧ ∃ tk, s' = { s with heap := s.heap.push (bmobj "list.append" a), toks := tk }) g5 fun tk => ⟨rfl, tk, rfl⟩)) (fun v s₁ hpt => ?_) fun _ _ e => e.2))
      obtain ⟨htk, e, tk, e₁⟩ := hpt
      subst e e₁
      refine wbp (wpAny_pure ?_)
      refine wbs (wpAny_bind (wpAny_bindName ?_))
      have x₁ := Step.push SV.gs (bmobj "list.append" a) rfl tk htk
      have S₁ := SV.step x₁
      refine wm (store_core K.ok (findN_get hi) (by simpa using hk) S₁ (v := .ref s.heap.objs.size) (sl := .meth "list.append" j) (fun h' b hs' hb => ⟨a, s.heap.objs.size, rfl, ?_, pin_self⟩) (fun h => nomatch h)) (fun _ s₂ ⟨x₂, S₂⟩ => wpAny_pure ⟨_, ⟨rfl, _, S₂⟩, (x₁.up (St.n0 ⟨V, SV⟩)).trans x₂⟩)
      show upd V i _ j = _
      rw [show upd V i (.ref s.heap.objs.size) j = V j from if_neg (Ne.symm hij)]
      exact hy
  · cases hv⟩

noncomputable def bcF (i : Nat) (F : SF PV) : SF Out := fun Γ => match Γ[i]? with
  | some (.meth "list.append" j) => (match Γ[j]? with
    | some (.own xs) => (F Γ).bind fun v => if xs.length ≤ sizeLine then some (.next (Γ.set j (.own (xs ++ [v])))) else none
    | _ => none)
  | _ => none
set_option tactic.hygienic true in
theorem C1_bcall (K : EnvK ns nm env) {y : Str} {np cpos pos : Pos} {e : PySem.Expr} {F} {i : Nat} {k : NK} (hi : findN ns y 0 = some (i, k)) (h : CE c d ns env e F)
    (he : eval (.Call (.Name y np) [e] [] cpos) env = (do callWith cpos (← eval (.Name y np) env) [] (backTo cpos (starEach [e] env)) (backToKw cpos (keywordEach [] env))))
    (hse : starEach [e] env = (false, eval e env) :: starEach [] env)
    (hint : interactive env = false) (hsw : swapsWith (.Call (.Name y np) [e] [] cpos) none pos.line env = pure false) :
    C1 c d ns env (.Expr (.Call (.Name y np) [e] [] cpos) pos) (bcF i F) := ⟨fun Γ o hv => by
  unfold bcF at hv
  split at hv
  · rename_i j hsl
    split at hv
    · rename_i xs hsj
      obtain ⟨v, hvv, hv1⟩ := bind_some hv
      split at hv1
      · rename_i hsz
        cases hv1
        refine ⟨fun A n₀ G s E rm S => wpAny_Expr ?_ hint hsw⟩
        obtain ⟨V, SV⟩ := S
        obtain ⟨a, b, hb, ha, hG⟩ := SV.slot i _ hsl
        rw [he]
        refine wpAny_bind (wpAny_Name (loadVar K.ok (findN_get hi) SV hb ?_) (K.ok.dbg i y k (findN_get hi)))
        refine callWith_bound (a := a) (by rw [hse]; rfl) (PyProof.Rows.args_cons (wm ((h.run Γ v hvv).run A n₀ G s E rm ⟨V, SV⟩) (fun Y s₁ ⟨G₁, hh₁, x₁⟩ => wpAny_items_nil ?_)) hse)
        have SV₁ := SV.step x₁
        obtain ⟨a', vs, n, hy', q1, q2, q3, q4, q5, q6⟩ := SV₁.slot j _ hsj
        rw [ha] at hy'; cases hy'
        refine ⟨x₁.sub _ _ (x₁.le _ _ hG), ?_⟩
        refine call_bound (xs := vs.toArray) (x₁.sub _ _ (x₁.le _ _ hG)) ⟨n, q5⟩ (fun h' hl' hs' => ?_) (by simpa [q6.length] using hsz)
        obtain ⟨n'', e''⟩ := hl'
        have R := SV₁.obj_set (sl := .own xs) (sl' := .own (xs ++ [v])) (tk := s₁.toks) (o' := lobj (vs ++ [Y]) n'') hsj rfl ha q1 q2 q4 q5 ⟨fun _ h => (by cases h), fun _ h => (by cases h)⟩ hs' (by simpa using e'') (fun _ h => by cases h) (Nat.le_refl _) rfl
          ⟨a, vs ++ [Y], n'', rfl, q1, q2, q3, q4, by simpa using e'', q6.append (cons_of hh₁ rfl)⟩
        exact ⟨G₁, ⟨rfl, V, R.1⟩, (x₁.up (St.n0 ⟨V, SV⟩)).trans R.2⟩
      · cases hv1
    · cases hv
  · cases hv⟩
end
end

section
section
variable {c : Ctx0} {d : Nat} {ns : List (Str × NK)} {env : Env} {Γ : List Slot} {nm : List (Str × NameKind)}

noncomputable def replP (y z : Str) : PV → Option PV
  | .str x => if (y == z) = false ∧ x.length + (x.length + 1) * z.length ≤ 16777216 then some (.str (Txt.replace x y z)) else none
  | _ => none
set_option tactic.hygienic true in
theorem CE_replace (h0 : 0 < c.tk0) {o : PySem.Expr} {apos pos : Pos} {y z : Str} {k1 k2 : Nat} {p1 p2 : Pos} {F} (h₁ : CE c d ns env o F)
    (hbase : attributeBase o "replace" env (eval o env) = eval o env) (hline : (apos.endLine == pos.line) = true) :
    CE c d ns env (.Call (.Attribute o "replace" apos) [.Constant (.str y) k1 p1, .Constant (.str z) k2 p2] [] pos) (fun Γ => (F Γ).bind (replP y z)) := ⟨fun Γ v hv => by
  obtain ⟨a, ha, hv⟩ := bind_some hv
  unfold replP at hv
  split at hv
  · rename_i x
    split at hv
    · rename_i hc
      cases hv
      refine ⟨fun A n₀ G s E rm S => ?_⟩
      refine wpAny_Call_method_lateS hbase (by rfl) hline (wm ((h₁.run Γ _ ha).run A n₀ G s E rm S) (fun V₁ s₁ ⟨G₁, ⟨t, hh₁⟩, x₁⟩ => ?_))
      subst hh₁
      have S₁ := S.step x₁
      have tk := Nat.lt_of_lt_of_le h0 S₁.gs.tk
      refine ⟨"str", "str.replace", PySem.F.plainAttrs_str, PySem.F.slot_str_replace, PySem.F.type_str_replace, typeIs_str _ _ _, (fun _ e => nomatch e), ?_⟩
      refine callWith_go (c := c) (.builtin _) (by rfl) (PyProof.Rows.args_cons (wpAny_Constant_str ?_) (by rfl))
      refine PyProof.Rows.args_cons (wpAny_Constant_str ?_) (by rfl)
      refine wpAny_items_nil ⟨S₁.gs.up, ?_⟩
      have x₂ := Step.tok S₁.gs (Bel s₁) (s₁.toks + 1 + 1) (Nat.le_add_right _ 2)
      have g₂ := S₁.gs.stepE x₂ S₁.big
      exact wpAny_mono (fixT (A := A) (s := { s₁ with toks := s₁.toks + 1 + 1 }) (n₀ := Bel s₁) (G := G₁) (Φ := fun V G' _ => Holds (w := c.w) G' (.str (Txt.replace x y z)) V) (SC.replace (s := { s₁ with toks := s₁.toks + 1 + 1 }) (Nat.ne_of_gt tk) (Nat.succ_ne_zero _) (Nat.ne_of_lt (Nat.lt_succ_self _)) hc.1 hc.2 (fun t' k => ⟨G₁, ⟨_, rfl⟩, (Step.refl g₂).any k⟩)))
        (fun V s₂ ⟨G₂, hh, x₃⟩ => ⟨G₂, hh, x₁.then (x₂.trans x₃)⟩) fun _ _ e => e
    · cases hv
  · cases hv⟩

noncomputable def fstrP (a b : Str) : PV → Option PV
  | .str x => if ((Str.empty ++ a) ++ x ++ b).length ≤ sizeLine ∧ ((Str.empty ++ a) ++ x).length ≤ sizeLine ∧ (Str.empty ++ a).length ≤ sizeLine ∧ x.length ≤ sizeLine then some (.str ((Str.empty ++ a) ++ x ++ b)) else none
  | _ => none
set_option tactic.hygienic true in
theorem CE_fstr {e : PySem.Expr} {a b : Str} {k1 k2 : Nat} {p1 p2 p3 pos : Pos} {F} (h : CE c d ns env e F) :
    CE c d ns env (.JoinedStr [.Constant (.str a) k1 p1, .FormattedValue e (-1) none p2, .Constant (.str b) k2 p3] pos) (fun Γ => (F Γ).bind (fstrP a b)) := ⟨fun Γ v hv => by
  obtain ⟨u, hu, hv⟩ := bind_some hv
  unfold fstrP at hv
  split at hv
  · rename_i x
    split at hv
    · rename_i hc
      cases hv
      refine ⟨fun A n₀ G s E rm S => wpAny_JoinedStr ?_⟩
      obtain ⟨V, SV⟩ := S
      refine wpAny_Constant_str ⟨a, _, rfl, hc.2.2.1, ?_⟩
      have g := SV.gs
      have x₀ := Step.tok g (Bel s) (s.toks + 1) (Nat.le_succ _)
      have S₀ := St.step ⟨V, SV⟩ x₀
      refine wpAny_FormattedValue_plain (wm ((h.run Γ _ hu).run A n₀ G _ E rm S₀) (fun Y s₁ ⟨G₁, ⟨t, e⟩, x₁⟩ => ?_))
      subst e
      have S₁ := S₀.step x₁
      have fin : ∀ (t' : Tok) (k : Nat), s₁.toks ≤ k → (∃ y t'', Value.str x t' = .str y t'' ∧ ((Str.empty ++ a) ++ y).length ≤ sizeLine ∧ Joins c.M A E (evalEach [.Constant (.str b) k2 p3] env) ((Str.empty ++ a) ++ y) (fun out s₁ => out.length ≤ sizeLine ∧ XP A G s (.str ((Str.empty ++ a) ++ x ++ b)) (.str out s₁.toks) { s₁ with toks := s₁.toks + 1 }) { s₁ with toks := k }) := fun t' k hk => by
        refine ⟨x, t', rfl, hc.2.1, ?_⟩
        refine wpAny_Constant_str ⟨b, _, rfl, hc.1, hc.1, G₁, ⟨_, rfl⟩, ?_⟩
        exact (x₀.then x₁).then (Step.tok S₁.gs _ _ (Nat.le_trans hk (Nat.le_add_right _ 2)))
      exact wpAny_formatField_str (fin t s₁.toks (Nat.le_refl _)) (fin s₁.toks (s₁.toks + 1) (Nat.le_succ _)) hc.2.2.2
    · cases hv
  · cases hv⟩

theorem slot_object_init : PySem.Slot "object" "__init__" "object.__init__" :=
  .of (owner := "object") (n := "__init__") (by rw [typeLookup_type, builtinLookup_eq_fast]; kernel_rfl) (by decide +kernel) (by decide +kernel) (by decide +kernel)
    (by first | exact .inl (by decide +kernel) | exact .inr (by decide +kernel)) (by rw [isSubtype_type]; kernel_rfl)
theorem mro_object : mroOf (.type "object") = pure [.type "object"] := by rw [mroOf_type]; kernel_rfl
theorem lookup_object_new : typeLookup (.type "object") "__new__" = pure (some (.builtin "object.__new__")) := by rw [typeLookup_type, builtinLookup_eq_fast]; kernel_rfl
theorem called_object : TypeCalled "object" "object.__new__" "object.__init__" :=
  ⟨by decide +kernel, by decide +kernel, ⟨_, _, mro_object⟩, madeBy_type mro_object lookup_object_new (by decide +kernel), by decide +kernel, by rw [isSubtype_type]; kernel_rfl, slot_object_init⟩
theorem meets_object_new : Meets (Builtin.«object.__new__» ⟨[.type "object"], []⟩) (fun _ R s => R (.ok (.ret (.ref s.heap.objs.size))) { s with heap := s.heap.push { cls := .type "object", data := .plain } }) :=
  Meets.of_wp fun prog w A R s hs => by
    obtain ⟨hp, g, d, tk, os⟩ := s
    have f1 := called_object.made
    unfold Builtin.«object.__new__»
    with_reducible refine PySem.wpAny_bind ?_
    wp_delta
    with_reducible refine PySem.wpAny_pure ?_
    (with_reducible apply PySem.wpAny_ite_false); focus (rfl; done)
    (with_reducible apply PySem.wpAny_ite_false); focus (rfl; done)
    with_reducible refine PySem.wpAny_bind ?_
    wp_delta
    with_reducible refine PySem.wpAny_bind ?_
    wp_delta
    with_reducible refine PySem.wpAny_bind ?_
    wp_delta
    with_reducible refine PySem.wpAny_pure ?_
    with_reducible refine PySem.wpAny_bind ?_
    wp_delta
    wp_delta
    wp_delta
    wp_delta
    with_reducible refine PySem.wpAny_bind ?_
    with_reducible refine PySem.wpAny_bind ?_
    with_reducible refine PySem.wpAny_of_eq (by assumption) ?_
    (with_reducible apply PySem.wpAny_ite_true); focus (rfl; done)
    with_reducible refine PySem.wpAny_pure ?_
    with_reducible refine PySem.wpAny_pure ?_
    with_reducible refine PySem.wpAny_pure ?_
    with_reducible refine PySem.wpAny_bind ?_
    with_reducible refine PySem.wpAny_of_eq (by assumption) ?_
    (with_reducible apply PySem.wpAny_ite_false); focus (rfl; done)
    with_reducible refine PySem.wpAny_pure ?_
    (with_reducible apply PySem.wpAny_ite_false); focus (rfl; done)
    (with_reducible apply PySem.wpAny_ite_false); focus (rfl; done)
    with_reducible refine PySem.wpAny_bind ?_
    with_reducible refine PySem.wpAny_pure ?_
    with_reducible refine PySem.wpAny_bind ?_
    wp_delta
    wp_delta
    with_reducible refine PySem.wpAny_bind ?_
    with_reducible refine PySem.wpAny_alloc' ?_
    with_reducible refine PySem.wpAny_pure ?_
    (with_reducible apply PySem.wpAny_ite_false); focus (rfl; done)
    wp_delta
    wp_delta
    with_reducible refine PySem.wpAny_pure ?_
    exact ⟨_, rfl, hs⟩
theorem call_object {A : Around} {s : Shared} {Q : Value → Shared → Prop} {E : Value → Shared → Prop} (hQ : Q (.ref s.heap.objs.size) { s with heap := s.heap.push { cls := .type "object", data := .plain } }) : wpAny c.M A (call (.type "object") []) Q E s := by
  refine callType_meets called_object (by kernel_rfl) (by kernel_rfl) PySem.F.entry_object_new PySem.F.entry_object_init meets_object_new (Q₁ := fun obj s₁ => s₁.TypeIs obj "object" ∧ Q obj s₁) ⟨⟨_, Heap.get?_push_size _ rfl, rfl⟩, hQ⟩ fun obj s₁ h => ?_
  exact ⟨h.1, by unfold argsOk; kernel_rfl, (fun _ R s => R (.ok (.ret .none)) s), Meets.of_wp fun prog w A R s hs => wpAny_pure ⟨_, rfl, hs⟩, rfl, h.2⟩
noncomputable def objectP : List PV → Option PV
  | [] => some .obj
  | _ => none
theorem FF_object : FF c d (.type "object") objectP := ⟨fun args v h => by
  unfold objectP at h
  split at h
  · cases h
    refine ⟨fun A G s Vs E _ g _ hh => ?_⟩
    obtain rfl : Vs = [] := hh
    exact call_object ⟨G, ⟨_, rfl⟩, Step.push1 g _⟩
  · cases h⟩
theorem Gl_object (K : Kc c) : Gl c d "object" objectP := ⟨_, K.gv (by decide +kernel) (by decide +kernel), .type _, FF_object⟩
end
end

section
section
variable {prog : Program} {w : World} {A : Around} {E : Value → Shared → Prop} {s : Shared}
theorem key_lookup : isSubtype (.type "KeyError") (.type "LookupError") = pure true := by rw [isSubtype_type]; kernel_rfl
theorem tl47 {m : Addr} {f : Int → Option Value} {Q : Builtin.Str.Mapped → Shared → Prop} (hd : (m == sysModules) = false) (hh : A.handled = none) (hm : s.heap.MapOf (PySem.intKind prog w) m f) (hv : f 47 = none)
    (hQ : ∀ h' tk, (∀ b o, s.heap.get? b = some o → h'.get? b = some o) → Q .keep { s with heap := h', toks := tk }) : wpAny (model prog w) A (Builtin.Str.tableLookup (.ref m) 47) Q E s := by
  unfold Builtin.Str.tableLookup
  refine wpAny_bind (wpAny_attempt (wpAny_bind (wpAny_mkInt ?_)))
  refine wpAny_getItem_missing_of (knd := PySem.intKind prog w) (k := 47) (by simp [PySem.intKind, Value.isInt]) hd hh hm hv ?_
  intro h' e X
  obtain ⟨ob, t, he, hc, _⟩ := X.there
  refine wpAny_bind (wpAny_isInstance (T := "KeyError") ⟨_, he, hc⟩ key_lookup ?_)
  simp only [if_true]
  exact wpAny_bind (wpAny_rule (wpAny_pure (hQ h' _ X.keeps)))

theorem tr_slash {m : Addr} {f : Int → Option Value} {t : Tok} {Q : Value → Shared → Prop} (hd : (m == sysModules) = false) (hh : A.handled = none) (hm : s.heap.MapOf (PySem.intKind prog w) m f) (hv : f 47 = none)
    (hQ : ∀ h' t' tk, (∀ b o, s.heap.get? b = some o → h'.get? b = some o) → Q (.str ⟨#[47]⟩ t') { s with heap := h', toks := tk }) : wpAny (model prog w) A (call (.builtin "str.translate") [.str ⟨#[47]⟩ t, .ref m]) Q E s := by
  refine wpAny_call (codeAny_call_builtin PySem.F.slot_str_translate.plain PySem.F.entry_str_translate (PySem.F.slot_str_translate.check _ _ _ _ _ _ _ _ (typeIs_str _ _ _) (PySem.F.args_str_translate_2 _ _) ?_))
  unfold Builtin.«str.translate»
  refine wbe (a := (.str ⟨#[47]⟩ t, ⟨#[47]⟩, .ref m)) rfl ?_
  dsimp only
  rw [if_neg (by decide)]
  rw [show (#[47] : Array Nat) = [47].toArray from rfl, List.forIn_toArray, List.forIn_cons]
  refine wpAny_bind (wpAny_bind ?_)
  rw [if_neg (by decide), if_pos (by decide +kernel)]
  refine wpAny_bind (tl47 hd hh hm hv fun h' tk hk => ?_)
  dsimp only
  repeat (any_goals (first | assumption | wp_step))
  exact hQ h' tk (tk + 1) hk
end
structure Special (c : Ctx0) : Prop where
  at_ : ∃ m f, c.mg "_special_chars_map" = some (.ref m) ∧ (m == sysModules) = false ∧ c.hb.MapOf (PySem.intKind Pw c.w) m f ∧ f 47 = none
section
variable {c : Ctx0} {d : Nat} {ns : List (Str × NK)} {env : Env} {Γ : List Slot} {nm : List (Str × NameKind)}
noncomputable def slashP : PV → Option PV
  | .str x => if x = ⟨#[47]⟩ then some (.str x) else none
  | _ => none
theorem CE_translate (C : Cok c) (Sp : Special c) (K : EnvK ns nm env) {o : PySem.Expr} {apos np pos : Pos} {F} (h₁ : CE c d ns env o F) (hk : nm.lookup ("_special_chars_map" : Str) = some NameKind.globalImplicit)
    (hbase : attributeBase o "translate" env (eval o env) = eval o env) (hline : (apos.endLine == pos.line) = true)
    (hs : starEach [.Name "_special_chars_map" np] env = (false, eval (.Name "_special_chars_map" np) env) :: starEach [] env)
    (hfew : ((backTo pos (starEach [.Name "_special_chars_map" np] env)).all (fun x => !x.1) && (backToKw pos (keywordEach [] env)).all (fun x => x.1.isSome)
      && decide (([.Name "_special_chars_map" np] : List PySem.Expr).length + ([] : List Keyword).length + (if ([] : List Keyword).isEmpty then 0 else 1) < 30)) = true) :
    CE c d ns env (.Call (.Attribute o "translate" apos) [.Name "_special_chars_map" np] [] pos) (fun Γ => (F Γ).bind slashP) := ⟨fun Γ v hv => by
  obtain ⟨a, ha, hv⟩ := bind_some hv
  unfold slashP at hv
  split at hv
  · rename_i x
    split at hv
    · rename_i hx
      cases hv
      subst hx
      obtain ⟨m, f, hm1, hm2, ⟨om, es, ep, hm3, hm4⟩, hm5⟩ := Sp.at_
      refine ⟨fun A n₀ G s E rm S => ?_⟩
      refine wpAny_Call_method_lateS hbase hfew hline (wm ((h₁.run Γ _ ha).run A n₀ G s E rm S) (fun V₁ s₁ hpt => ?_))
      obtain ⟨G₁, ⟨t, hh₁⟩, x₁⟩ := hpt
      subst hh₁
      have S₁ := S.step x₁
      refine ⟨"str", "str.translate", PySem.F.plainAttrs_str, PySem.F.slot_str_translate, PySem.F.type_str_translate, typeIs_str _ _ _, (fun _ e => nomatch e), ?_⟩
      refine callWith_go (c := c) (.builtin _) (by rw [hs]; rfl) (PyProof.Rows.args_cons (wm ((EX_glob (d := d) (Γ := Γ) C K.ok (kind_glob K hk) (V := .ref m) (.inl hm1) (by decide)).run A n₀ G₁ s₁ E rm S₁) (fun V₂ s₂ hpt => ?_)) hs)
      obtain ⟨G₂, e₂, x₂⟩ := hpt
      obtain rfl : V₂ = .ref m := e₂
      have S₂ := S₁.step x₂
      refine wpAny_items_nil ⟨S₂.gs.up, ?_⟩
      have hM : s₂.heap.MapOf (PySem.intKind Pw c.w) m f := ⟨om, es, ep, S₂.gs.up _ _ hm3, hm4⟩
      refine wpAny_mono (wpAny_toks (tr_slash (Q := fun v s' => ∃ t' h' tk, v = .str ⟨#[47]⟩ t' ∧ s' = { s₂ with heap := h', toks := tk } ∧ ∀ b o, s₂.heap.get? b = some o → h'.get? b = some o) hm2 rm.handled hM hm5 fun h' t' tk hk => ⟨t', h', tk, rfl, rfl, hk⟩))
        (fun V₃ s₃ ⟨htk, t', h', tk, e3, e4, hk⟩ => ?_) fun _ _ e => e.2
      subst e3 e4
      exact ⟨G₂, ⟨t', rfl⟩, (x₁.then x₂).then (Step.fresh S₂.gs htk hk)⟩
    · cases hv
  · cases hv⟩
end
end

section
section
variable {c : Ctx0} {d : Nat} {ns : List (Str × NK)} {env : Env} {Γ : List Slot} {nm : List (Str × NameKind)}
theorem interactive_no (K : EnvK ns nm env) : interactive env = false := by
  unfold interactive
  rw [K.ok.fn]; rfl
set_option backward.match.sparseCases true in
noncomputable def swapB (nm : List (Str × NameKind)) (ts vs : List PySem.Expr) (names : List Str) : Bool :=
  (ts.length == 2 || ts.length == 3) && vs.length == ts.length && !(vs.any fun | .Starred .. => true | _ => false) &&
  (ts.filterMap fun
    | .Name id pos => if nm.lookup id == some .local && pos.line == (ts.head?.map (·.pos.line)).getD 0 then some id else none
    | _ => none) == names && names.length == ts.length && names.eraseDups.length == names.length && !(vs.all (foldedForSure 8)) && !(vs.all (constantsAlone 8))
set_option backward.match.sparseCases true in
theorem swapped_some (K : EnvK ns nm env) {ts vs k tp k2 p names} (h : swapB nm ts vs names = true) : swappedStores [.Tuple ts k tp] (.Tuple vs k2 p) env = pure (some names) := by
  unfold swapB at h
  obtain ⟨h, h8⟩ := Bool.and_eq_true_iff.mp h
  obtain ⟨h, h7⟩ := Bool.and_eq_true_iff.mp h
  obtain ⟨h, h6⟩ := Bool.and_eq_true_iff.mp h
  obtain ⟨h, h5⟩ := Bool.and_eq_true_iff.mp h
  obtain ⟨h, h4⟩ := Bool.and_eq_true_iff.mp h
  obtain ⟨h, h3⟩ := Bool.and_eq_true_iff.mp h
  obtain ⟨h1, h2⟩ := Bool.and_eq_true_iff.mp h
  replace h2 := eq_of_beq h2
  replace h4 := eq_of_beq h4
  replace h5 := eq_of_beq h5
  replace h6 := eq_of_beq h6
  rw [Bool.not_eq_true'] at h3 h7 h8
  have key : ∀ L : List Str, L = names → ¬ ((L.length != ts.length || L.eraseDups.length != L.length) = true) := by
    rintro _ rfl hh
    rcases Bool.or_eq_true_iff.mp hh with q | q
    · exact (bne_iff_ne.mp q) h5
    · exact (bne_iff_ne.mp q) h6
  unfold swappedStores
  dsimp only
  rw [K.block]
  simp only [K.kinds]
  refine (if_neg ?c1).trans ((if_neg ?c2).trans ((if_neg ?c3).trans ((if_neg ?c4).trans ((if_neg ?c5).trans ?fin))))
  case c1 => rw [h1, h2]; simp
  case c2 => exact fun hh => Bool.false_ne_true (h3.symm.trans hh)
  case c3 => exact key _ h4
  case c4 => exact fun hh => Bool.false_ne_true (h7.symm.trans hh)
  case c5 => exact fun hh => Bool.false_ne_true (h8.symm.trans hh)
  case fin => exact congrArg (fun x => (pure (some x) : Sem (Option (List Str)))) h4
end
set_option maxHeartbeats 8000000
noncomputable def tr_escape : Σ' F : List PV → Option PV, ∀ c, Kc c → Special c → Gl c 1 "escape" F := by
  refine' ⟨fnF 1 0 _, fun c K Sp => ?_⟩
  rotate_left
  refine' (show Gl c 1 (recK 11).name (fnF 1 0 _) from ?_)
  apply Gl_def K (recK_mem (by decide)) [("pattern", .loc)] ["pattern"] 0 (by decide +kernel) (by decide +kernel) (by decide +kernel) (by decide +kernel)
  · intro pm cd doc Vs hl
    obtain ⟨x, rfl⟩ := List.length_eq_one_iff.mp hl
    rfl
  · intro env KE
    refine' CS_cons _ _
    apply C1_if
    apply CB_truth (he := by intros; rfl)
    apply CE.t
    apply CE_call (Kc.toCok (by assumption)) (by assumption) (by decide +kernel) (by exact Gl_isinstance (by assumption))
    apply CL_cons
    apply CE_name (by assumption); rfl
    apply CL_cons
    apply CE_type (by assumption) (by assumption) <;> first | decide +kernel | rfl
    apply CL_nil
    intros; rfl
    intros; rfl
    rfl
    rfl
    intro cenv KE
    rfl
    apply CS_cons
    apply C1_ret
    apply CE_translate (Kc.toCok (by assumption)) (by assumption) (by assumption) (hk := by decide +kernel)
    apply CE_name (by assumption); rfl
    rfl
    rfl
    rfl
    rfl
    apply CS_nil
    apply CS_cons
    apply C1_assign (EnvK.ok (by assumption)) (by rfl) (by rfl) (hs := by rfl)
    apply CE_dead
    apply CS_cons
    apply C1_ret
    apply CE_dead
    apply CS_nil
    apply CS_nil
noncomputable def tr_join_translated_parts : Σ' F : List PV → Option PV, ∀ c, Kc c → Gl c 1 "_join_translated_parts" F := by
  refine' ⟨fnF 2 5 _, fun c K => ?_⟩
  rotate_left
  refine' (show Gl c 1 (recK 14).name (fnF 2 5 _) from ?_)
  apply Gl_def K (recK_mem (by decide)) [("inp", .loc), ("STAR", .loc), ("res", .loc), ("add", .loc), ("i", .loc), ("n", .loc), ("fixed", .loc)] ["inp", "STAR"] 5 (by decide +kernel) (by decide +kernel) (by decide +kernel) (by decide +kernel)
  · intro pm cd doc Vs hl
    obtain ⟨_, _, rfl⟩ := len2 hl
    rfl
  · intro env KE
    refine' CS_cons _ _
    apply C1_own_nil (EnvK.ok (by assumption)) (by rfl) (by rfl)
    rfl
    apply CS_cons
    apply C1_bmeth (by assumption) (by rfl) (by rfl) (by rfl)
    rfl
    rfl
    apply CS_cons
    apply C1_tup_swapped (EnvK.ok (by assumption)) ["i", "n"] [5, 4] (hw := by exact swapped_some (by assumption) (by decide +kernel))
    apply CL_cons
    apply CE_int
    apply CL_cons
    apply CE_callT (Kc.toCok (by assumption)) (by assumption) (by decide +kernel) (GlV_len (by assumption))
    apply CT_name (by assumption); rfl
    rfl
    rfl
    rfl
    apply CL_nil
    intros; rfl
    intros; rfl
    rfl
    rfl
    apply CS_cons
    apply C1_while 64
    apply CB_and
    apply CB_cmp (b := COp_lt)
    apply CT_name (by assumption); rfl
    apply CT_name (by assumption); rfl
    rfl
    apply CB_cmp (b := COp_isnot)
    apply CE.t
    apply CE_sub2
    apply CE_name (by assumption); rfl
    apply CE_name (by assumption); rfl
    intro cenv KE
    rfl
    apply CT_name (by assumption); rfl
    rfl
    apply CS_cons
    apply C1_bcall (by assumption) (by rfl)
    apply CE_sub2
    apply CE_name (by assumption); rfl
    apply CE_name (by assumption); rfl
    intro cenv KE
    rfl
    rfl
    rfl
    exact interactive_no (by assumption)
    rfl
    apply CS_cons
    apply C1_aug (by assumption) (o := IOp_add)
    rfl
    rfl
    apply CE_int
    apply CS_nil
    apply CS_cons
    apply C1_while 64
    apply CB_cmp (b := COp_lt)
    apply CT_name (by assumption); rfl
    apply CT_name (by assumption); rfl
    rfl
    apply CS_cons
    apply C1_assert
    apply CB_dead
    apply CS_cons
    apply C1_aug (by assumption) (o := IOp_add)
    rfl
    rfl
    apply CE_int
    apply CS_cons
    apply C1_if
    apply CB_cmp (b := COp_eq)
    apply CT_name (by assumption); rfl
    apply CT_name (by assumption); rfl
    rfl
    apply CS_cons
    apply C1_bcall (by assumption) (by rfl)
    apply CE_str
    rfl
    rfl
    exact interactive_no (by assumption)
    rfl
    apply CS_cons
    apply C1_brk
    apply CS_nil
    apply CS_nil
    apply CS_cons
    apply C1_assert
    apply CB_cmp (b := COp_isnot)
    apply CE.t
    apply CE_sub2
    apply CE_name (by assumption); rfl
    apply CE_name (by assumption); rfl
    intro cenv KE
    rfl
    apply CT_name (by assumption); rfl
    rfl
    apply CS_cons
    apply C1_own_nil (EnvK.ok (by assumption)) (by rfl) (by rfl)
    rfl
    apply CS_cons
    apply C1_while 64
    apply CB_and
    apply CB_cmp (b := COp_lt)
    apply CT_name (by assumption); rfl
    apply CT_name (by assumption); rfl
    rfl
    apply CB_cmp (b := COp_isnot)
    apply CE.t
    apply CE_sub2
    apply CE_name (by assumption); rfl
    apply CE_name (by assumption); rfl
    intro cenv KE
    rfl
    apply CT_name (by assumption); rfl
    rfl
    apply CS_cons
    apply C1_append (by assumption) (by rfl)
    apply CE_sub2
    apply CE_name (by assumption); rfl
    apply CE_name (by assumption); rfl
    intro cenv KE
    rfl
    rfl
    rfl
    rfl
    rfl
    exact interactive_no (by assumption)
    rfl
    apply CS_cons
    apply C1_aug (by assumption) (o := IOp_add)
    rfl
    rfl
    apply CE_int
    apply CS_nil
    apply CS_cons
    apply C1_assign (EnvK.ok (by assumption)) (by rfl) (by rfl) (hs := by rfl)
    apply CE_methT SMV_join
    apply CE_str
    apply CT_name (by assumption); rfl
    rfl
    rfl
    rfl
    rfl
    apply CS_cons
    apply C1_if
    apply CB_cmp (b := COp_eq)
    apply CT_name (by assumption); rfl
    apply CT_name (by assumption); rfl
    rfl
    apply CS_cons
    apply C1_bcall (by assumption) (by rfl)
    apply CE_str
    rfl
    rfl
    exact interactive_no (by assumption)
    rfl
    apply CS_cons
    apply C1_bcall (by assumption) (by rfl)
    apply CE_name (by assumption); rfl
    rfl
    rfl
    exact interactive_no (by assumption)
    rfl
    apply CS_nil
    apply CS_cons
    apply C1_bcall (by assumption) (by rfl)
    apply CE_fstr
    apply CE_name (by assumption); rfl
    rfl
    rfl
    exact interactive_no (by assumption)
    rfl
    apply CS_nil
    apply CS_nil
    apply CS_cons
    apply C1_assert
    apply CB_cmp (b := COp_eq)
    apply CT_name (by assumption); rfl
    apply CT_name (by assumption); rfl
    rfl
    apply CS_cons
    apply C1_assign (EnvK.ok (by assumption)) (by rfl) (by rfl) (hs := by rfl)
    apply CE_methT SMV_join
    apply CE_str
    apply CT_name (by assumption); rfl
    rfl
    rfl
    rfl
    rfl
    apply CS_cons
    apply C1_ret
    apply CE_fstr
    apply CE_name (by assumption); rfl
    apply CS_nil
end

section
noncomputable def LgP (C I ax : Addr) (n : Nat) (F : Nat → Value → Prop) : Protocol := fun m s₀ v s kap =>
  (∃ i, i + 1 + m = n ∧ F i v) ∧ GenSince C [I] s₀ s ∧ ∀ s'' : Shared, (∀ b ∈ [C, I, ax], ∀ o, s.heap.get? b = some o → s''.heap.get? b = some o) → 0 < s''.toks → kap (.send .none) s''

section
variable {prog : Program} {w : World} {A : Around}

structure LgE (prog : Program) (w : World) (cenv : Env) (x : Str) (elt : PySem.Expr) (items : Array Value) (F : Nat → Value → Prop) : Prop where
  elt : ∀ (A' : Around) E' (i : Nat) v (s₂ : Shared) m₂, A'.handled = none → items[i]? = some v → 0 < s₂.toks → s₂.heap.Ns cenv.locals m₂ → m₂ x = some v →
    wpAny (model prog w) A' (eval elt cenv) (fun y s₃ => F i y ∧ Keeps s₂ s₃) E' s₂

theorem lg_loop {elt iter : PySem.Expr} {x : Str} {px : Pos} {scope : Scope} {pos : Pos} {I ax : Addr} {items : Array Value} {cenv : Env}
    (hh : A.handled = none) (hne : ax ≠ I) (F : Nat → Value → Prop) (hx : cenv.kindOf x = some .local) (hp : (cenv.scope.kind == .class || (cenv.scope.kind == .module && cenv.locals != cenv.globals)) = false)
    (hco : cenv.scope.isCoroutine = false) (hCI : cenv.locals ≠ I) (hCa : cenv.locals ≠ ax) (hq : LgE prog w cenv x elt items F) :
    ∀ (k i : Nat) (s₀ s : Shared) (m : Str → Option Value), items.size - i = k → i ≤ items.size → (s.heap.IsListIter I ax i ∧ s.heap.IsList ax items) → s.heap.Ns cenv.locals m → GenSince cenv.locals [I] s₀ s → 0 < s.toks →
      Seg (model prog w) A (fun n s₀ r s₁ => r = .ok .next ∧ (n = 0 ∧ GenSince cenv.locals [I] s₀ s₁)) (LgP cenv.locals I ax items.size F) (items.size - i) s₀
        (.compLoop (.GeneratorExp elt [⟨.Name x px, iter, [], 0⟩] scope pos) 0 (.ref I) .none cenv)
        ((model prog w).den (.compLoop (.GeneratorExp elt [⟨.Name x px, iter, [], 0⟩] scope pos) 0 (.ref I) .none cenv)) [] s := by
  have hh' : (A.over (.compLoop (.GeneratorExp elt [⟨.Name x px, iter, [], 0⟩] scope pos) 0 (.ref I) .none cenv) []).handled = none := hh
  have W := Walks.list (prog := prog) (w := w) hh' I ax hne items
  intro k
  induction k with
  | zero =>
    intro i s₀ s m hk hi hst hn hsince htk
    obtain rfl : i = items.size := by omega
    show Seg _ A _ _ _ s₀ _ ((compTurn (.GeneratorExp elt [⟨.Name x px, iter, [], 0⟩] scope pos) 0 (.ref I) .none cenv).onRaise (leaving cenv)) [] s
    rw [compTurn_gen, Sem.onRaise_eq_wrap]
    refine seg_bind_wrap (wpAny_standAt ?_)
    refine seg_bind_wrap (W.done s _ _ hst fun h' tk hk' => ?_)
    exact seg_end (.ok .next) ⟨rfl, Nat.sub_self _, hsince.step fun b o _ hw e => hk' b o hw e⟩
  | succ k ih =>
    intro i s₀ s m hk hi hst hn hsince htk
    have hlt : i < items.size := by omega
    show Seg _ A _ _ _ s₀ _ ((compTurn (.GeneratorExp elt [⟨.Name x px, iter, [], 0⟩] scope pos) 0 (.ref I) .none cenv).onRaise (leaving cenv)) [] s
    rw [compTurn_gen, Sem.onRaise_eq_wrap]
    refine seg_bind_wrap (wpAny_standAt ?_)
    refine seg_bind_wrap (wpAny_with_toks (Nat.le_refl s.toks) (W.item i s _ _ hlt hst fun v h₁ tk₁ hPv hst₁ hk₁ htk₁ => ?_))
    refine seg_bind_wrap (wpAny_of_eq (rfl : letOwnedTupleGo (.Name x px) (.ref I) v = pure ()) ?_)
    refine seg_bind_wrap (wpAny_assign_Name (wpAny_storeName_local hx (hn.at' fun o e => hk₁ _ o (by simpa using hCI) e) (fun h₂ hn₂ hs₂ => ?_) hp))
    have up₂ : ∀ b o, b ≠ cenv.locals → b ∉ [I] → s.heap.get? b = some o → h₂.get? b = some o := fun b o hbC hbw e => hs₂.extBut b o hbC (hk₁ b o hbw e)
    have hst₂ : h₂.IsListIter I ax (i + 1) ∧ h₂.IsList ax items := W.frame _ _ _ hst₁ fun b hb o e => hs₂.extBut b o (fun h => by
      rcases List.mem_cons.mp hb with q | hb
      · exact hCI (h ▸ q)
      · exact hCa (h ▸ List.mem_singleton.mp hb)) e
    refine seg_bind_wrap (wpAny_of_eq (a := true) (by rfl) ?_)
    simp only [if_true]
    have hy : ∀ v, yieldOut cenv v = yieldValue v := fun v => by simp only [yieldOut, hco, Bool.false_eq_true, if_false]
    simp only [hy]
    rw [Sem.bind_eq_wrap', Sem.bind_eq_wrap', Sem.wrap_wrap, Sem.wrap_wrap]
    refine seg_wrap (wpAny_with_toks (Nat.le_refl _) (wpAny_mono (hq.elt _ _ i v _ _ hh' hPv (Nat.succ_pos _) hn₂ (by simp)) (fun y s₄ h₄ htk₄ => ?_) fun _ _ e _ => e))
    obtain ⟨hFy, h₄, tk₄, rfl, hk₄⟩ := h₄
    have hm' : items.size - i = (items.size - (i + 1)) + 1 := by omega
    rw [hm']
    refine seg_at (seg_yield rfl rfl rfl ⟨⟨i, by omega, hFy⟩, hsince.step fun b o hbC hbw e => hk₄ b o (up₂ b o hbC hbw e), fun s'' hal h0 => ?_⟩)
    refine seg_again rfl (ih (i + 1) s'' s'' _ (by omega) hlt (W.frame _ _ _ hst₂ fun b hb o e => hal b (List.mem_cons_of_mem _ hb) o (hk₄ b o e))
      ((hn₂.keeps hk₄).at' fun o e => hal _ (List.mem_cons_self ..) o e) (GenSince.refl _ _ _) h0)

theorem lg_start {elt iter : PySem.Expr} {x : Str} {px : Pos} {scope : Scope} {pos : Pos} {I ax : Addr} {items : Array Value} {cenv : Env}
    (hh : A.handled = none) (hne : ax ≠ I) (F : Nat → Value → Prop) (hx : cenv.kindOf x = some .local) (hp : (cenv.scope.kind == .class || (cenv.scope.kind == .module && cenv.locals != cenv.globals)) = false)
    (hco : cenv.scope.isCoroutine = false) (hCI : cenv.locals ≠ I) (hCa : cenv.locals ≠ ax) (hq : LgE prog w cenv x elt items F) (s₀ s : Shared) (m : Str → Option Value)
    (hst : s.heap.IsListIter I ax 0 ∧ s.heap.IsList ax items) (hn : s.heap.Ns cenv.locals m) (hsince : GenSince cenv.locals [I] s₀ s) (htk : 0 < s.toks) :
    Seg (model prog w) A (fun n s₀ r s₁ => r = .ok .next ∧ (n = 0 ∧ GenSince cenv.locals [I] s₀ s₁)) (LgP cenv.locals I ax items.size F) items.size s₀
      (.compStart (.GeneratorExp elt [⟨.Name x px, iter, [], 0⟩] scope pos) 0 (.ref I) .none cenv)
      ((model prog w).den (.compStart (.GeneratorExp elt [⟨.Name x px, iter, [], 0⟩] scope pos) 0 (.ref I) .none cenv)) [] s := by
  have hh' : (A.over (.compStart (.GeneratorExp elt [⟨.Name x px, iter, [], 0⟩] scope pos) 0 (.ref I) .none cenv) []).handled = none := hh
  have W := Walks.list (prog := prog) (w := w) hh' I ax hne items
  have loop := lg_loop (iter := iter) (px := px) (scope := scope) (pos := pos) hh hne F hx hp hco hCI hCa hq items.size 0 s₀ s m (Nat.sub_zero _) (Nat.zero_le _) hst hn hsince htk
  show Seg _ A _ _ _ s₀ _ ((compStart (.GeneratorExp elt [⟨.Name x px, iter, [], 0⟩] scope pos) 0 (.ref I) .none cenv).onRaise (leaving cenv)) [] s
  unfold compStart
  rw [Sem.onRaise_eq_wrap]
  show Seg _ A _ _ _ s₀ _ ((ask >>= _).wrap _ _ _ _) [] s
  refine seg_bind_wrap (wpAny_askSetting ?_)
  split
  · exact seg_again rfl loop
  · first
      | exact seg_bind_wrap (wpAny_rule (seg_bind_wrap (wpAny_standAt (seg_bind_wrap (W.self 0 s _ _ hst (seg_again rfl loop))))))
      | (refine seg_bind_wrap (wpAny_rule ?_); show Seg _ A _ _ _ s₀ _ ((standAt iter.pos >>= _).wrap _ _ _ _) [] s; exact seg_bind_wrap (wpAny_standAt (seg_bind_wrap (W.self 0 s _ _ hst (seg_again rfl loop)))))

noncomputable def LgAt (prog : Program) (w : World) (A : Around) (a : Addr) (g : Nat) (C I ax : Addr) (n : Nat) (F : Nat → Value → Prop) (j : Nat) (s : Shared) : Prop :=
  s.heap.IsGen a g ∧ s.heap.NoLimit ∧ 0 < s.toks ∧ ∃ gs, s.gens[g]? = some gs ∧ ∀ s'' : Shared, (∀ b ∈ [C, I, ax], ∀ o, s.heap.get? b = some o → s''.heap.get? b = some o) → 0 < s''.toks →
    gs.Goes (model prog w) A.in1 (fun n s₀ r s₁ => r = .ok .next ∧ (n = 0 ∧ GenSince C [I] s₀ s₁)) (LgP C I ax n F) (n - j) (.send .none) s''

theorem LgAt.walks (hh : A.handled = none) (a : Addr) (g : Nat) (C I ax : Addr) (n : Nat) (F : Nat → Value → Prop) (haC : a ≠ C) (haI : a ≠ I)
    (hroom : A.depth < recursionLimit) (hcC : cStatics ≠ C) (hcI : cStatics ≠ I) :
    WalksS prog w A a [a, C, I, ax, cStatics] [C, I] (GenOnlyQ g) n F (LgAt prog w A a g C I ax n F) where
  sub := fun b hb => by simp only [List.mem_cons, List.not_mem_nil, or_false] at hb ⊢; rcases hb with rfl | rfl <;> simp
  grefl := fun _ => .inl rfl
  gtrans := fun _ _ _ x y => x.trans y
  frame := fun j s h' tk st htk hk =>
    ⟨let ⟨o, nm, qn, ho, r⟩ := st.1; ⟨o, nm, qn, hk a (by simp) o ho, r⟩,
     (let ⟨mc, hns, hnn⟩ := st.2.1; ⟨mc, hns.at' fun o e => hk cStatics (by simp) o e, hnn⟩), Nat.lt_of_lt_of_le st.2.2.1 htk,
     let ⟨gs, hgs, hgo⟩ := st.2.2.2; ⟨gs, hgs, fun s'' hal => hgo s'' fun b hb o e => hal b hb o (hk b (by
      simp only [List.mem_cons, List.not_mem_nil, or_false] at hb ⊢; rcases hb with rfl | rfl | rfl <;> simp) o e)⟩⟩
  item := fun j s Q E hj st hQ => by
    obtain ⟨hg, hl, h0, gs, hgs, hgo⟩ := st
    obtain ⟨m, hm⟩ : ∃ m, n - j = m + 1 := ⟨n - j - 1, by omega⟩
    rw [hm] at hgo
    refine wpAny_with_toks (Nat.le_refl s.toks) ?_
    refine wpAny_pyNext_genexpQ (P := fun n s₀ s₁ => n = 0 ∧ GenSince C [I] s₀ s₁) hh hl hroom hg hgs (hgo _ (fun _ _ _ e => e) h0) (fun v s₁ gs' hb hv => ?_) (fun s₁ hp h' hk => ?_)
    · obtain ⟨⟨i, hi, hF⟩, ⟨h₁, tk₁, rfl, hk₁⟩, hkap⟩ := hv
      obtain rfl : i = j := by omega
      intro htk
      refine hQ v _ hF ⟨let ⟨o, nm, qn, ho, r⟩ := hg; ⟨o, nm, qn, hk₁ a o haC (by simpa using haI) ho, r⟩, (let ⟨mc, hns, hnn⟩ := hl; ⟨mc, hns.at' fun o e => hk₁ cStatics o hcC (by simpa using hcI) e, hnn⟩), Nat.lt_of_lt_of_le h0 htk, gs', setGen_self (gs := .running) (setGen_self hgs), fun s'' hal h0'' => ?_⟩
        ⟨fun b o hb e => hk₁ b o (fun h => hb (h ▸ List.mem_cons_self ..)) (fun h => hb (List.mem_cons_of_mem _ h)) e, GenOnlyQ.of ((GenOnly.setGen s g .running).trans (GenOnly.setGen _ g gs')) (setGen_self (gs := .running) (setGen_self hgs)) hb, rfl, rfl, htk⟩
      have e : n - (i + 1) = m := by omega
      rw [e]
      exact hkap s'' hal h0''
    · exact absurd hp.1 (Nat.succ_ne_zero m)
  done := fun s Q E st hQ => by
    obtain ⟨hg, hl, h0, gs, hgs, hgo⟩ := st
    rw [Nat.sub_self] at hgo
    refine wpAny_with_toks (Nat.le_refl s.toks) ?_
    refine wpAny_pyNext_genexpQ (P := fun n s₀ s₁ => n = 0 ∧ GenSince C [I] s₀ s₁) hh hl hroom hg hgs (hgo _ (fun _ _ _ e => e) h0) (fun v s₁ gs' hb hv => ?_) (fun s₁ hp h' hk => ?_)
    · obtain ⟨_, _, hkap⟩ := hv
      intro htk
      exact (hkap s₁ (fun _ _ _ e => e) (Nat.lt_of_lt_of_le h0 htk)).elim
    · obtain ⟨_, h₁, tk₁, rfl, hk₁⟩ := hp
      intro htk
      exact hQ _ ⟨fun b o hb e => hk b o (hk₁ b o (fun h => hb (h ▸ List.mem_cons_self ..)) (fun h => hb (List.mem_cons_of_mem _ h)) e), GenOnlyQ.of ((GenOnly.setGen s g .running).trans (GenOnly.setGen _ g .finished)) (setGen_self (gs := .running) (setGen_self hgs)) rfl, rfl, rfl, htk⟩
  self := fun _ _ _ _ st hQ => wpAny_pyIter_gen st.1 hQ

theorem LgAt.fresh {elt iter : PySem.Expr} {x : Str} {px : Pos} {scope : Scope} {pos : Pos} {I ax a : Addr} {g : Nat} {items : Array Value} {cenv : Env}
    (hh : A.handled = none) (hne : ax ≠ I) (F : Nat → Value → Prop) (hx : cenv.kindOf x = some .local) (hp : (cenv.scope.kind == .class || (cenv.scope.kind == .module && cenv.locals != cenv.globals)) = false)
    (hco : cenv.scope.isCoroutine = false) (hCI : cenv.locals ≠ I) (hCa : cenv.locals ≠ ax) (hq : LgE prog w cenv x elt items F) {s : Shared} {m : Str → Option Value}
    (hg : s.heap.IsGen a g) (hgs : s.gens[g]? = some (.fresh (.compStart (.GeneratorExp elt [⟨.Name x px, iter, [], 0⟩] scope pos) 0 (.ref I) .none cenv)))
    (hst : s.heap.IsListIter I ax 0 ∧ s.heap.IsList ax items) (hn : s.heap.Ns cenv.locals m) (hl : s.heap.NoLimit) (h0 : 0 < s.toks) : LgAt prog w A a g cenv.locals I ax items.size F 0 s :=
  ⟨hg, hl, h0, _, hgs, fun s'' hal h0'' => ⟨rfl, lg_start (A := A.in1) hh hne F hx hp hco hCI hCa hq s'' s'' m
    ((Walks.list (prog := prog) (w := w) (A := A) hh I ax hne items).frame _ _ _ hst fun b hb o e => hal b (List.mem_cons_of_mem _ hb) o e)
    (hn.at' fun o e => hal _ (List.mem_cons_self ..) o e) (GenSince.refl _ _ _) h0''⟩⟩
end
end

section
theorem Step.growT {c : Ctx0} {A : Around} {n₀ : Addr → Prop} {G : Addr → Option Obj} {s s' : Shared} (g : GS c A G s) (hk : ∀ b o, b ≠ 86 → s.heap.get? b = some o → s'.heap.get? b = some o)
    (ht : TabOk G s'.heap) (hos : s'.os = s.os) (hg : AllBare s.gens → AllBare s'.gens) (htk : s.toks ≤ s'.toks) : Step A n₀ G s G s' where
  sub := fun b o e => hk b o (fun q => by rw [q, g.t86] at e; cases e) (g.sub b o e)
  le := fun _ _ e => e
  new := fun _ h1 h2 => absurd h1 h2
  keep := fun b o _ e q _ => hk b o q e
  fr := fun b o _ e q => ⟨o.slots, hk b o q e⟩
  os := hos
  gens := hg
  tab := ht
  tk := htk

section
variable {M : Model} {A : Around} {E : Value → Shared → Prop} {s : Shared}
theorem codeAmong_other {p q : Pos} {c v : Value} (hpq : ¬ ((q.line : Int) = (p.line : Int) ∧ (q.col : Int) = (p.col : Int))) : ∀ (l : List Value), TriplesOk l → codeAmong p (l ++ [rawInt q.line, rawInt q.col, c]) = some v → codeAmong p l = some v := fun l h e => by
  fun_induction TriplesOk l with
  | case1 =>
    simp only [List.nil_append, codeAmong, rawInt] at e
    split at e
    · rename_i hc; exact absurd (by simpa using hc) hpq
    · cases e
  | case2 a t b u x rest ih =>
    simp only [List.cons_append, codeAmong] at e ⊢
    split at e
    · rename_i hc; rw [if_pos hc]; exact e
    · rename_i hc; rw [if_neg hc]; exact ih h e
  | case3 => exact h.elim
theorem genexprCode_tab {G : Addr → Option Obj} {env : Env} {cc : Addr} {pos : Pos} {qn : Str} {scope : Scope} {Q : Value → Shared → Prop} (hc : env.code = .ref cc) (H : CodeHd s.heap cc 86) (T : TabOk G s.heap) (hpos : ¬ ((pos.line : Int) = (lamPos.line : Int) ∧ (pos.col : Int) = (lamPos.col : Int)))
    (hQ : ∀ code h' tk, (∀ b o, b ≠ 86 → s.heap.get? b = some o → h'.get? b = some o) → s.heap.objs.size ≤ h'.objs.size → TabOk G h' → Q code { s with heap := h', toks := tk }) :
    wpAny M A (genexprCode env pos qn scope) Q E s := by
  obtain ⟨ps, hP, hps⟩ := T
  have hok := H.code hP hps.1
  cases hnf : codeAmong pos ps.toList with
  | none =>
    exact wpAny_genexprCodeX hc hok (H.tab hP) hnf fun c' h' tk hx hge hlt hcode _ htab _ => hQ _ h' tk hx (Nat.le_trans hge (Nat.le_of_lt hlt)) ⟨_, htab.2, by
      have h2 := htab.2
      obtain ⟨_, _, _, _, _, _, _, _, _, op, _, _, _, _, _, _, _, hop, hpd, htr, _⟩ := hcode
      rw [h2] at hop; cases hop
      cases hpd
      exact ⟨htr, fun cv e => hps.2 cv (codeAmong_other hpos _ hps.1 (by simpa using e))⟩⟩
  | some cv =>
    obtain ⟨o, vs, file, tf, flags, tg, inF, text, tt, op, ho, hd, h11, h2, h7, h9, h10, hop, hpd, htr, hne⟩ := hok
    unfold genexprCode codeAt
    rw [hc, if_neg (show ¬ ((Value.ref cc == Value.none) = true) from Bool.false_ne_true)]
    refine wpAny_bind (wpAny_fieldsOf ho hd ?_)
    rw [h11]
    refine wpAny_bind (wpAny_fieldsOf hop hpd ?_)
    rw [hnf]
    exact wpAny_pure (hQ cv s.heap s.toks (fun _ _ _ e => e) (Nat.le_refl _) ⟨ps, hP, hps⟩)
end

structure EltS (x : Str) (elt : PySem.Expr) (f : Str → Option Str) : Prop where
  run : ∀ (w : World) (A : Around) (E : Value → Shared → Prop) (cenv : Env) (s : Shared) m (u : Str) t r, A.handled = none → cenv.kindOf x = some .local → cenv.scope.kind = .function → f u = some r → 0 < s.toks →
    s.heap.Ns cenv.locals m → m x = some (.str u t) → wpAny (model Pw w) A (eval elt cenv) (fun y s' => (∃ t', y = .str r t') ∧ Keeps s s' ∧ 0 < s'.toks) E s
theorem EltS_name {x : Str} {pos : Pos} (hd : (x == ("__debug__" : Str)) = false) : EltS x (.Name x pos) some := ⟨fun w A E cenv s m u t r hh hk hf e h0 hn hm => by
  cases e
  exact wpAny_Name (wpAny_loadName_local hf hk hn hm ⟨⟨t, rfl⟩, ⟨s.heap, s.toks, rfl, fun _ _ e => e⟩, h0⟩) hd⟩
noncomputable def repS (f : Str → Option Str) (y z : Str) : Str → Option Str := fun u => (f u).bind fun x => if (y == z) = false ∧ x.length + (x.length + 1) * z.length ≤ 16777216 then some (Txt.replace x y z) else none
theorem EltS_replace {x : Str} {o : PySem.Expr} {f : Str → Option Str} {y z : Str} {apos pos p1 p2 : Pos} {k1 k2 : Nat} (h : EltS x o f)
    (hbase : ∀ env, attributeBase o "replace" env (eval o env) = eval o env) (hline : (apos.endLine == pos.line) = true) :
    EltS x (.Call (.Attribute o "replace" apos) [.Constant (.str y) k1 p1, .Constant (.str z) k2 p2] [] pos) (repS f y z) := ⟨fun w A E cenv s m u t r hh hk hf e h0 hn hm => by
  unfold repS at e
  obtain ⟨q, hq, e⟩ := bind_some e
  split at e
  · rename_i hc
    cases e
    refine wpAny_Call_method_lateS (hbase cenv) (by rfl) hline (wm (h.run w A E cenv s m u t q hh hk hf hq h0 hn hm) (fun V₁ s₁ hpt => ?_))
    obtain ⟨⟨t₁, e1⟩, ⟨h₁, tk₁, e2, hk₁⟩, h0₁⟩ := hpt
    subst e1 e2
    refine ⟨"str", "str.replace", PySem.F.plainAttrs_str, PySem.F.slot_str_replace, PySem.F.type_str_replace, typeIs_str _ _ _, (fun _ e => nomatch e), ?_⟩
    refine Calls.callWith_builtin (by rfl) (evalArgs_all (by rfl) ?_)
    refine PyProof.Rows.args_cons (wpAny_Constant_str ?_) (by rfl)
    refine PyProof.Rows.args_cons (wpAny_Constant_str ?_) (by rfl)
    refine wpAny_items_nil ?_
    refine wpAny_mono (wpAny_toks (SC.replace (Q := fun v s' => ∃ t' k, v = .str (Txt.replace q y z) t' ∧ s' = { s with heap := h₁, toks := k }) (Nat.ne_of_gt h0₁) (Nat.succ_ne_zero _) (Nat.ne_of_lt (Nat.lt_succ_self _)) hc.1 hc.2 (fun t' k => ⟨t', k, rfl, rfl⟩)))
      (fun V s₂ ⟨htk, t', k, e3, e4⟩ => ?_) fun _ _ e => e.2
    subst e3 e4
    exact ⟨⟨t', rfl⟩, ⟨h₁, k, rfl, hk₁⟩, Nat.lt_of_lt_of_le (Nat.succ_pos _) htk⟩
  · cases e⟩

noncomputable def allS (f : Str → Option Str) : List PV → Option (List Str)
  | [] => some []
  | .str u :: r => (f u).bind fun a => (allS f r).bind fun t => some (a :: t)
  | _ => none
theorem allS_get {w : World} {G : PH w} {f : Str → Option Str} : ∀ {xs : List PV} {rs : List Str} {vs : List Value}, allS f xs = some rs → HoldsL G xs vs →
    vs.length = rs.length ∧ ∀ (i : Nat) (v : Value), vs[i]? = some v → ∃ u t r, v = Value.str u t ∧ f u = some r ∧ rs[i]? = some r
  | [], rs, vs, h, hv => by
    cases h
    obtain rfl : vs = [] := hv
    exact ⟨rfl, fun i v e => by simp at e⟩
  | x :: xs, rs, vs, h, hv => by
    obtain ⟨v, r, rfl, h1, h2⟩ := hv
    unfold allS at h
    cases x with
    | str u =>
      obtain ⟨a, ha, h⟩ := bind_some h
      obtain ⟨t, ht, h⟩ := bind_some h
      cases h
      obtain ⟨e1, e2⟩ := allS_get ht h2
      obtain ⟨tt, rfl⟩ := h1
      refine ⟨by simp [e1], fun i v e => ?_⟩
      cases i with
      | zero => simp only [List.getElem?_cons_zero, Option.some.injEq] at e; subst e; exact ⟨u, tt, a, rfl, ha, rfl⟩
      | succ i => simpa using e2 i v (by simpa using e)
    | _ => cases h

structure Kt (c : Ctx0) : Prop where
  bmod : ∃ bm ob, BMod c.hb mainGlobals c.mg bm ob
noncomputable def CodeIs (c : Ctx0) (env : Env) : Prop := ∃ cc, env.code = .ref cc ∧ CodeHd c.hb cc 86

noncomputable def joinG (f : Str → Option Str) (sep : Str) (xs : List PV) : Option PV := (allS f xs).bind fun rs => if JoinOk sep rs = true ∧ rs.length ≤ sizeLine then some (.str (Txt.join sep rs)) else none
noncomputable def rdO (i : Nat) : SF (List PV) := fun Γ => match Γ[i]? with
  | some (.own xs) => some xs
  | _ => none

section
variable {c : Ctx0} {d : Nat} {ns : List (Str × NK)} {nm : List (Str × NameKind)} {env : Env}
theorem CE_joingen (C : Cok c) (T : Kt c) (K : EnvK ns nm env) (hcode : CodeIs c env) {sep x y : Str} {k1 : Nat} {p1 apos px py gpos pos : Pos} {elt : PySem.Expr} {scope : Scope} {f : Str → Option Str} {i : Nat} {k : NK} (hy : findN ns y 0 = some (i, k)) (he : EltS x elt f)
    (hco : scope.isCoroutine = false) (hcell : (scope.names.all fun z => !(z.2 == .cell)) = true) (hfree : (scope.names.all fun z => !(z.2 == .free)) = true) (h0 : scope.names.lookup (".0" : Str) = some NameKind.local) (hx : scope.names.lookup x = some .local) (hkind : scope.kind = .function)
    (hline : (apos.endLine == pos.line) = true) (hpos : ¬ ((gpos.line : Int) = (lamPos.line : Int) ∧ (gpos.col : Int) = (lamPos.col : Int))) (hgf : ∀ v, genFold (.Name y py) env v = pure v)
    (hs : starEach [.GeneratorExp elt [⟨.Name x px, .Name y py, [], 0⟩] scope gpos] env = (false, eval (.GeneratorExp elt [⟨.Name x px, .Name y py, [], 0⟩] scope gpos) env) :: starEach [] env)
    (hfew : ((backTo pos (starEach [.GeneratorExp elt [⟨.Name x px, .Name y py, [], 0⟩] scope gpos] env)).all (fun x => !x.1) && (backToKw pos (keywordEach [] env)).all (fun x => x.1.isSome)
      && decide (([.GeneratorExp elt [⟨.Name x px, .Name y py, [], 0⟩] scope gpos] : List PySem.Expr).length + ([] : List Keyword).length + (if ([] : List Keyword).isEmpty then 0 else 1) < 30)) = true) :
    CE c (d + 1) ns env (.Call (.Attribute (.Constant (.str sep) k1 p1) "join" apos) [.GeneratorExp elt [⟨.Name x px, .Name y py, [], 0⟩] scope gpos] [] pos) (fun Γ => (rdO i Γ).bind (joinG f sep)) := ⟨fun Γ v hv => by
  obtain ⟨xs, hxs, hv⟩ := bind_some hv
  obtain ⟨rs, hrs, hv⟩ := bind_some hv
  split at hv
  case isFalse => cases hv
  rename_i hj
  cases hv
  have hΓ : Γ[i]? = some (.own xs) := by
    unfold rdO at hxs
    split at hxs
    · cases hxs; assumption
    · cases hxs
  obtain ⟨cc, hcc, hcd⟩ := hcode
  obtain ⟨bm, ob, BM⟩ := T.bmod
  refine ⟨fun A n₀ G s E rm S => ?_⟩
  refine wpAny_Call_method_lateS (by rfl) hfew hline (wpAny_Constant_str ?_)
  obtain ⟨V, SV⟩ := S
  have x₁ := Step.tok SV.gs (Bel s) (s.toks + 1) (Nat.le_succ _)
  refine ⟨"str", "str.join", PySem.F.plainAttrs_str, PySem.F.slot_str_join, PySem.F.type_str_join, typeIs_str _ _ _, (fun _ e => nomatch e), ?_⟩
  have SV₁ := SV.step x₁
  generalize hs₁ : ({ s with toks := s.toks + 1 } : Shared) = s₁ at x₁ SV₁
  refine callWith_go (c := c) (.builtin _) (by rw [hs]; rfl) (PyProof.Rows.args_cons ?_ hs)
  obtain ⟨a, vs, n, ea, ga, haL, haF, hna, hga, hvs⟩ := SV₁.slot i _ hΓ
  have hroom : A.depth < recursionLimit := by have := rm.depth; omega
  have hlen := allS_get hrs hvs
  have ha86 : a ≠ 86 := tab_not SV₁.gs.tab hga (by intro vs h; cases h)
  refine wpAny_GeneratorExp_make (cl := []) hco (closureFor_none fun z hz => by simpa using List.all_eq_true.mp hfree z hz) (fun z hz => by simpa using List.all_eq_true.mp hcell z hz) h0 hkind hroom ?_ hgf
  refine wpAny_Name (loadVar K.ok (findN_get hy) SV₁ ea ?_) (K.ok.dbg i y k (findN_get hy))
  refine wpAny_pyIter_list (items := vs.toArray) ⟨_, hga, rfl, n, rfl⟩ ?_
  have up₂ : ∀ b o, s₁.heap.get? b = some o → (s₁.heap.push { cls := .type "list_iterator", data := .fields #[.ref a, .int 0 0] }).get? b = some o := fun b o e => Heap.get?_push_of_some _ e
  have upb : ∀ b o, c.hb.get? b = some o → s₁.heap.get? b = some o := SV₁.gs.up
  have b86 : ∀ b o, c.hb.get? b = some o → b ≠ 86 := fun b o e q => by have := SV₁.gs.hb b o e; rw [q, SV₁.gs.t86] at this; cases this
  refine ⟨C.nolimit.keeps fun b o e => up₂ _ _ (upb _ _ e), ?_⟩
  have tab₂ : TabOk G (s₁.heap.push { cls := .type "list_iterator", data := .fields #[.ref a, .int 0 0] }) := let ⟨ps, q1, q2⟩ := SV₁.gs.tab; ⟨ps, up₂ _ _ q1, q2⟩
  refine wpAny_with_toks (Nat.le_refl s₁.toks) (genexprCode_tab hcc (hcd.keeps fun b o e => up₂ _ _ (upb _ _ e)) tab₂ hpos fun code h₃ tk₃ hk₃ hsz₃ tab₃ htk₃ => ?_)
  have up₃ : ∀ b o, b ≠ 86 → s₁.heap.get? b = some o → h₃.get? b = some o := fun b o q e => hk₃ b o q (up₂ _ _ e)
  have upb₃ : ∀ b o, c.hb.get? b = some o → h₃.get? b = some o := fun b o e => up₃ b o (b86 b o e) (upb b o e)
  have BM₃ := BM.keeps upb₃
  have hgl : env.globals = mainGlobals := K.ok.globals
  refine wpAny_builtinsFor (hgl ▸ BM₃.ns) BM₃.name BM₃.ne BM₃.obj BM₃.cls BM₃.dict BM₃.data ?_
  intro h₄ hn₄ hs₄
  have hIlt : s₁.heap.objs.size < h₃.objs.size := by rw [Heap.size_push] at hsz₃; exact hsz₃
  have hC : h₄.objs.size = h₃.objs.size + 1 := by rw [hs₄.1, Heap.size_push]
  have keep₅ : ∀ b o, h₃.get? b = some o → (h₄.push { cls := .type "generator", data := .fields #[.int s₁.gens.size 0, .str "<genexpr>" (tk₃ + 1), .str (env.qual ++ "<genexpr>") (tk₃ + 1 + 1)] }).get? b = some o :=
    fun b o e => Heap.get?_push_of_some _ (hs₄.extBut b o (Nat.ne_of_lt (Heap.lt_size e)) (Heap.get?_push_of_some _ e))
  have hIne : s₁.heap.objs.size ≠ 86 := fun q => by obtain ⟨ps, q1, _⟩ := SV₁.gs.tab; rw [← q] at q1; exact Nat.lt_irrefl _ (Heap.lt_size q1)
  have hIt : h₃.get? s₁.heap.objs.size = some { cls := .type "list_iterator", data := .fields #[.ref a, .int 0 0] } := hk₃ _ _ hIne (Heap.get?_push_size _ rfl)
  have hax : a < s₁.heap.objs.size := Heap.lt_size hga
  obtain ⟨oS, eS, _⟩ := (let ⟨mc, hns, _⟩ := C.nolimit; ns_obj0 hns : ∃ o, c.hb.get? cStatics = some o ∧ True)
  have hSt : cStatics < s₁.heap.objs.size := Heap.lt_size (upb _ _ eS)
  have lt34 : h₃.objs.size < h₄.objs.size := by rw [hC]; exact Nat.lt_succ_self _
  have ne1 : h₄.objs.size ≠ h₃.objs.size := Nat.ne_of_gt lt34
  have ne2 : h₄.objs.size ≠ s₁.heap.objs.size := Nat.ne_of_gt (Nat.lt_trans hIlt lt34)
  let F : Nat → Value → Prop := fun j z => ∃ r t, rs[j]? = some r ∧ z = .str r t
  have hq : LgE Pw c.w (genEnv scope [] h₃.objs.size code builtinsNs env) x elt vs.toArray F := ⟨fun A' E' j z s₂ m₂ hA hz h0' hn hm => by
    obtain ⟨u, t, r, e1, e2, e3⟩ := hlen.2 j z (by simpa using hz)
    subst e1
    exact wm (he.run c.w A' E' _ s₂ m₂ u t r hA hx hkind e2 h0' hn hm) (fun y s' ⟨⟨t', h1⟩, h2, _⟩ => ⟨⟨r, t', e3, h1⟩, h2⟩)⟩
  have hsz : vs.toArray.size = rs.length := by simpa using hlen.1
  have hh2 : A.in1.in1.handled = none := rm.handled
  have W := LgAt.walks (prog := Pw) (w := c.w) (A := A.in1.in1) hh2 h₄.objs.size s₁.gens.size h₃.objs.size s₁.heap.objs.size a vs.toArray.size F ne1 ne2 hroom (Nat.ne_of_lt (Nat.lt_trans hSt hIlt)) (Nat.ne_of_lt hSt)
  let s₅ : Shared := { s₁ with gens := s₁.gens.push (.fresh (.compStart (.GeneratorExp elt [⟨.Name x px, .Name y py, [], 0⟩] scope gpos) 0 (.ref s₁.heap.objs.size) .none (genEnv scope [] h₃.objs.size code builtinsNs env))), toks := tk₃ + 1 + 1 + 1, heap := h₄.push { cls := .type "generator", data := .fields #[.int s₁.gens.size 0, .str "<genexpr>" (tk₃ + 1), .str (env.qual ++ "<genexpr>") (tk₃ + 1 + 1)] } }
  have st₀ : LgAt Pw c.w A.in1.in1 h₄.objs.size s₁.gens.size h₃.objs.size s₁.heap.objs.size a vs.toArray.size F 0
      s₅ :=
    LgAt.fresh (cenv := genEnv scope [] h₃.objs.size code builtinsNs env) (m := fun y => if y = ".0" then some (.ref s₁.heap.objs.size) else none) hh2 (Nat.ne_of_lt hax) F hx (by simp [genEnv, hkind]) hco (Nat.ne_of_gt hIlt) (Nat.ne_of_gt (Nat.lt_trans hax hIlt)) hq
      ⟨_, _, _, Heap.get?_push_size _ rfl, rfl, rfl, rfl⟩ (Array.getElem?_push_size ..) ⟨⟨_, keep₅ _ _ hIt, rfl, rfl⟩, ⟨_, keep₅ _ _ (up₃ _ _ ha86 hga), rfl, n, rfl⟩⟩ (hn₄.push _) (C.nolimit.keeps fun b o e => keep₅ _ _ (upb₃ _ _ e)) (Nat.succ_pos _)
  have up₅ : ∀ b o, b ≠ 86 → s₁.heap.get? b = some o → (h₄.push { cls := .type "generator", data := .fields #[.int s₁.gens.size 0, .str "<genexpr>" (tk₃ + 1), .str (env.qual ++ "<genexpr>") (tk₃ + 1 + 1)] }).get? b = some o := fun b o q e => keep₅ b o (up₃ b o q e)
  refine wpAny_items_nil ⟨fun b o e => keep₅ b o (upb₃ b o e), ?_⟩
  refine wpAny_mono (wpAny_toks (SC.joinGen (Q := fun v s'' => ∃ s' t' kk, v = .str (Txt.join sep rs) t' ∧ s'' = { s' with toks := kk } ∧ Moved [h₃.objs.size, s₁.heap.objs.size] (GenOnlyQ s₁.gens.size) s₅ s') W (fun j s' st => st.1.typeIs) st₀ (fun b hb => ?_) (by simp) (fun j z ⟨r, t, _, h⟩ => ⟨r, t, h⟩) (fun s' l hm hacc => ?_) (by rw [hsz]; exact hj.2)))
    (fun v₆ s₆ ⟨htk₆, s', t', kk, e1, e2, hm⟩ => ?_) fun _ _ e => e.2
  · show b < (h₄.push _).objs.size
    rw [Heap.size_push]
    simp only [List.mem_cons, List.not_mem_nil, or_false] at hb
    refine Nat.lt_succ_of_le ?_
    rcases hb with rfl | rfl | rfl | rfl | rfl
    · exact Nat.le_refl _
    · exact Nat.le_of_lt lt34
    · exact Nat.le_of_lt (Nat.lt_trans hIlt lt34)
    · exact Nat.le_of_lt (Nat.lt_trans hax (Nat.lt_trans hIlt lt34))
    · exact Nat.le_of_lt (Nat.lt_trans hSt (Nat.lt_trans hIlt lt34))
  · have hl : l.map (·.1) = rs := by
      apply List.ext_getElem?
      intro j
      have hsz' : l.length = rs.length := by have := hacc.1; simp only [strValues, List.size_toArray, List.length_map] at this; omega
      by_cases hjl : j < rs.length
      · have hj' : j < l.length := hsz' ▸ hjl
        obtain ⟨r, t, e1, e2⟩ := hacc.2 j (.str l[j].1 l[j].2) (by simp [strValues, List.getElem?_eq_getElem hj'])
        injection e2 with e3 _
        rw [e1, List.getElem?_map, List.getElem?_eq_getElem hj']
        simp [e3]
      · rw [List.getElem?_eq_none (by simpa [hsz'] using Nat.le_of_not_lt hjl), List.getElem?_eq_none (by simpa using Nat.le_of_not_lt hjl)]
    rw [hl]
    exact ⟨hj.1, fun t' kk => ⟨s', t', kk, rfl, rfl, hm⟩⟩
  · subst e1 e2
    have hnw : ∀ b o, s₁.heap.get? b = some o → b ∉ [h₃.objs.size, s₁.heap.objs.size] := fun b o e q => by
      have hb := Heap.lt_size e
      simp only [List.mem_cons, List.not_mem_nil, or_false] at q
      rcases q with rfl | rfl
      · exact Nat.lt_asymm hb hIlt
      · exact Nat.lt_irrefl _ hb
    refine ⟨G, ⟨t', rfl⟩, x₁.trans (Step.up (Step.growT (n₀ := Bel s₁) SV₁.gs (fun b o q e => hm.heap b o (hnw b o e) (up₅ b o q e)) ?_ hm.os (fun q => AllBare.moved (AllBare.push q rfl) hm.gens) (Nat.le_trans htk₃ ?_)) fun b hb => x₁.alive hb)⟩
    · obtain ⟨ps, q1, q2⟩ := tab₃
      refine ⟨ps, hm.heap _ _ ?_ (keep₅ _ _ q1), q2⟩
      obtain ⟨ps', q3, _⟩ := SV₁.gs.tab
      exact hnw _ _ q3
    · exact Nat.le_trans (Nat.le_add_right _ 3) htk₆⟩
end
end

section
section
variable {prog : Program} {w : World} {A : Around} {E : Value → Shared → Prop} {s : Shared}
theorem setItem_neg {l : Addr} {items : Array Value} {k : Int} {t : Tok} {v : Value} {Q : Unit → Shared → Prop} (hp : s.heap.PlainList l items)
    (h0 : k < 0) (h1 : -(items.size : Int) ≤ k) (hfit : -(2 ^ 63) ≤ k)
    (hQ : ∀ h', h'.PlainList l (items.setIfInBounds (k + items.size).toNat v) → Heap.SameBut l s.heap h' → Q () { s with heap := h' }) : wpAny (model prog w) A (setItem (.ref l) (.int k t) v) Q E s := by
  have hl := hp.isList
  obtain ⟨ne, ho⟩ := hp
  have hd : ({ cls := .type "list", data := .seq items ne } : Obj).data = .seq items ne := rfl
  unfold setItem
  try with_reducible refine wpAny_holding ?_
  first | refine wbp ?_ | skip
  refine wpAny_bind (wpAny_sequenceKey hl.typeIs (by decide) ?_)
  refine wpAny_bind (wpAny_callSpecial?_slot (name := Str.ofString "__setitem__") hl.typeIs slot_list_setitem
    (wpAny_call_entry slot_list_setitem hl.typeIs entry_list_setitem ?_ (args_list_setitem _ _ _)))
  show wpAny _ _ (Builtin.List.listSubscript? (.int k t) >>= _) _ _ s
  refine wpAny_bind (wpAny_listSubscript_int (fitsIndex_neg h0 hfit) ?_)
  clear hfit
  have hidx := seqIndex_neg h0 h1
  have hj : (k + items.size).toNat < items.size := by omega
  obtain ⟨j, rfl⟩ : ∃ j : Nat, k = Int.negSucc j := by
    cases k with
    | ofNat n => exact absurd h0 (Int.not_lt.mpr (Int.ofNat_nonneg n))
    | negSucc n => exact ⟨n, rfl⟩
  show wpAny _ _ ((Builtin.List.listItems (.ref l) >>= fun xs => pure ((seqIndex? (Int.negSucc j) xs.size).bind fun i => xs[i]?.map (i, ·))) >>= _) _ _ s
  refine wpAny_bind (wpAny_bind ?_)
  show wpAny _ _ (seqItems? (.ref l) >>= _) _ _ s
  refine wpAny_bind (wpAny_seqItems ho hd (wpAny_pure (wpAny_pure ?_)))
  rw [hidx]
  simp only [Option.bind_some, Array.getElem?_eq_getElem hj, Option.map_some]
  generalize hpp : (Int.negSucc j + items.size).toNat = p at *
  show wpAny _ _ (setSeqItemAt l p v >>= _) _ _ s
  obtain ⟨n', hd'⟩ := Obj.data_mapSeq hd (·.setIfInBounds p v)
  have hfin : (s.heap.update l (Obj.mapSeq (·.setIfInBounds p v))).PlainList l (items.setIfInBounds p v) :=
    ⟨_, Heap.get?_update_self _ ho (Obj.isFreed_of_seq hd')⟩
  refine wpAny_bind (wpAny_setSeqItemAt ho hd ?_)
  first
    | exact wbp (wpAny_pure ⟨.none, rfl, wpAny_pure (hQ _ hfin (Heap.SameBut.update ..))⟩)
    | exact wpAny_pure ⟨.none, rfl, wpAny_pure (hQ _ hfin (Heap.SameBut.update ..))⟩
end
section
variable {c : Ctx0} {d : Nat} {ns : List (Str × NK)} {env : Env} {Γ : List Slot} {nm : List (Str × NameKind)}
theorem HoldsL.set {w : World} {G : PH w} : ∀ {xs : List PV} {vs : List Value} (p : Nat) {v : PV} {V : Value}, HoldsL G xs vs → Holds G v V → HoldsL G (xs.set p v) (vs.set p V)
  | [], vs, p, v, V, h, _ => by rw [show vs = [] from h]; exact rfl
  | x :: xs, vs, p, v, V, h, hv => by
    obtain ⟨w', r, rfl, h1, h2⟩ := h
    cases p with
    | zero => exact ⟨V, r, rfl, hv, h2⟩
    | succ p => exact ⟨w', r.set p V, rfl, h1, HoldsL.set p h2 hv⟩
noncomputable def augsubF (i : Nat) (f : PV → PV → Option PV) (I F : SF PV) : SF Out := fun Γ => match Γ[i]? with
  | some (.own xs) => (I Γ).bind fun y => match y with
    | .int k => (F Γ).bind fun v => if k < 0 ∧ -(xs.length : Int) ≤ k ∧ -(2 ^ 63) ≤ k then (xs[(k + xs.length).toNat]?).bind fun u => (f u v).map fun r => .next (Γ.set i (.own (xs.set (k + xs.length).toNat r))) else none
    | _ => none
  | _ => none
set_option tactic.hygienic true in
theorem C1_augsub (K : EnvK ns nm env) {x : Str} {np sp pos : Pos} {ie e : PySem.Expr} {op : Operator} {f I F} {i : Nat} {k : NK} (hi : findN ns x 0 = some (i, k)) (hI : CE c d ns env ie I) (o : IOp c op f) (h : CE c d ns env e F)
    (ha : ∀ ov iv new, augStore ie ov iv new = (do holding [new, ov, iv] (setItem ov iv new); release [new, ov, iv] []; pure .next)) :
    C1 c d ns env (.AugAssign (.Subscript (.Name x np) ie sp) op e pos) (augsubF i f I F) := ⟨fun Γ o' hv => by
  unfold augsubF at hv
  split at hv
  · rename_i xs hsl
    obtain ⟨y, hy, hv⟩ := bind_some hv
    split at hv
    · rename_i kk
      obtain ⟨v, hvv, hv⟩ := bind_some hv
      split at hv
      · rename_i hc
        obtain ⟨u, hu, hv⟩ := bind_some hv
        obtain ⟨r, hr, e'⟩ := Option.map_eq_some_iff.mp hv
        subst e'
        refine ⟨fun A n₀ G s E rm S => wpAny_AugAssign_SubscriptAny ?_ ha⟩
        obtain ⟨V, SV⟩ := S
        obtain ⟨a, vs, n, hy₁, q1, q2, q3, q4, q5, q6⟩ := SV.slot i _ hsl
        refine wpAny_Name (loadVar K.ok (findN_get hi) SV hy₁ ?_) (K.ok.dbg i x k (findN_get hi))
        refine wm ((hI.run Γ _ hy).run A n₀ G s E rm ⟨V, SV⟩) (fun Z s₁ ⟨G₁, ⟨t, e₁⟩, x₁⟩ => ?_)
        subst e₁
        have SV₁ := SV.step x₁
        obtain ⟨a', vs₁, n₁, hy₂, r1, r2, r3, r4, r5, r6⟩ := SV₁.slot i _ hsl
        rw [hy₁] at hy₂; cases hy₂
        have hl₁ := r6.length
        obtain ⟨U, hU, hUh⟩ := r6.get _ hu
        refine wpAny_getItem_list_neg (items := vs₁.toArray) ⟨_, r5, rfl, n₁, rfl⟩ hc.1 (by simp only [List.size_toArray]; rw [hl₁]; exact hc.2.1) hc.2.2 (by simp only [List.size_toArray, List.getElem?_toArray]; rw [hl₁]; exact hU) ?_
        refine wm ((h.run Γ v hvv).run A n₀ G₁ s₁ E rm ⟨V, SV₁⟩) (fun Y s₂ ⟨G₂, hh₂, x₂⟩ => ?_)
        have SV₂ := SV₁.step x₂
        refine wm (o.run u v r hr A G₂ s₂ U Y E (rm.less (Nat.zero_le _)) SV₂.gs (St.big ⟨V, SV₂⟩) (hUh.mono x₂.le) hh₂) (fun W s₃ ⟨G₃, hh₃, x₃⟩ => ?_)
        have SV₃ := SV₂.step x₃
        obtain ⟨a'', vs₃, n₃, hy₃, w1, w2, w3, w4, w5, w6⟩ := SV₃.slot i _ hsl
        rw [hy₁] at hy₃; cases hy₃
        have hl₃ := w6.length
        refine setItem_neg (items := vs₃.toArray) ⟨n₃, w5⟩ hc.1 (by simp only [List.size_toArray]; rw [hl₃]; exact hc.2.1) hc.2.2 fun h' hp hs' => ?_
        obtain ⟨n₄, e₄⟩ := hp
        simp only [List.size_toArray, hl₃, List.setIfInBounds_toArray] at e₄
        have R := SV₃.obj_set (sl := .own xs) (sl' := .own (xs.set (kk + xs.length).toNat r)) (tk := s₃.toks) (o' := lobj (vs₃.set (kk + xs.length).toNat W) n₄) hsl rfl hy₁ w1 w2 w4 w5 ⟨fun _ h => (by cases h), fun _ h => (by cases h)⟩ hs' e₄ (fun _ h => by cases h) (Nat.le_refl _) rfl
          ⟨a, vs₃.set (kk + xs.length).toNat W, n₄, rfl, w1, w2, w3, w4, e₄, w6.set _ hh₃⟩
        exact ⟨G₃, ⟨rfl, V, R.1⟩, (((x₁.then x₂).then x₃).up (St.n0 ⟨V, SV⟩)).trans R.2⟩
      · cases hv
    · cases hv
  · cases hv⟩
end
end

section
open PySem.Builtin PySem.Builtin.Re
section
variable {prog : Program} {w : World} {A : Around} {E : Value → Shared → Prop} {s : Shared}
theorem lam_body {env : Env} {m : Str → Option Value} {a tu p : Addr} {x : Str} {t : Tok} {st hd li lim : Int} {B C : Nat} {k1 k2 k3 : Nat} {p1 p2 p3 p4 p5 p6 p7 p8 : Pos} (hh : A.handled = none) (hx : x.cps.size ≤ 1000)
    (hk : env.kindOf "_m" = some .local) (hf : env.scope.kind = .function) (hn : s.heap.Ns env.locals m) (hm : m "_m" = some (.ref a)) (hline : (p3.endLine == p5.line) = true)
    (ha : s.heap.get? a = some { cls := .type "re.Match", data := .fields #[.str x t, .ref p, rawInt 0, rawInt lim, rawInt li, .ref tu] }) (ht : s.heap.get? tu = some { cls := .type "tuple", data := .seq #[rawInt st, rawInt hd, rawInt (B : Int), rawInt (C : Int)] }) :
    wpAny (model prog w) A (eval (.BinOp (.Constant (.str "\\") k1 p1) .Add (.BoolOp .Or [.Call (.Attribute (.Name "_m" p2) "group" p3) [.Constant (.int 1) k2 p4] [] p5, .Constant (.str "") k3 p6] p7) p8) env)
      (fun v s' => (∃ t', v = .str ⟨#[92] ++ x.cps.extract B C⟩ t') ∧ Keeps s s') E s := by
  refine wpAny_BinOp (wpAny_Constant_str ?_)
  refine wpAny_Or2 ?_
  refine wpAny_Call_method_lateS (by rfl) (by rfl) hline ?_
  refine wpAny_Name (wpAny_loadName_local hf hk hn hm ?_) (by decide)
  refine ⟨"re.Match", "re.Match.group", plainAttrs_match, slot_group, type_group, ⟨_, ha, rfl⟩, (fun b e => by cases e; exact ⟨_, ha, rfl⟩), ?_⟩
  refine Calls.callWith_builtin (by rfl) (evalArgs_all (by rfl) ?_)
  refine PyProof.Rows.args_cons (wpAny_Constant_int ?_) (by rfl)
  refine wpAny_items_nil ?_
  refine call_group rfl rfl (Nat.le_trans hx (by decide)) ha ht fun t' k => ?_
  have hlen : (x.cps.extract B C).size ≤ 1000 := by simp only [Array.size_extract]; omega
  refine P.truthy_str (by show ¬ (((x.cps.extract B C).size : Nat) : Int) ≥ 2 ^ 63; omega) ?_
  have hbs : (⟨#[92]⟩ : Str) = ("\\" : Str) := by decide
  have fin : ∀ (y : Str) (u : Tok) (k : Nat), y = ⟨x.cps.extract B C⟩ → wpAny (model prog w) A (binaryOp Operator.Add (Value.str (Str.ofString "\\") s.toks) (Value.str y u))
      (fun v s' => (∃ t', v = Value.str { cps := #[92] ++ x.cps.extract B C } t') ∧ Keeps s s') E { s with toks := k } := fun y u k e => by
    subst e
    refine SB.add (fun t' k' => ⟨⟨t', ?_⟩, ⟨s.heap, k', rfl, fun _ _ e => e⟩⟩) ?_
    · rfl
    · show 1 + (x.cps.extract B C).size ≤ sizeLine
      unfold sizeLine; omega
  split
  · exact fin _ _ _ rfl
  · rename_i hz
    refine wpAny_Constant_str (fin _ _ _ ?_)
    have h0 : (x.cps.extract B C).size = 0 := by
      have : ¬ (((x.cps.extract B C).size : Int) != 0) = true := hz
      simpa using this
    rw [Array.size_eq_zero_iff.mp h0]; rfl
end
end

section
open PySem.Builtin PySem.Builtin.Re
section
variable {w : World} {A : Around}
structure LamI (p f : Addr) (params : Arguments) (body : PySem.Expr) (scope : Scope) (pm cdv ctv : Value) (s : Shared) : Prop where
  fn : ∃ o, s.heap.get? f = some o ∧ o.data = .func (kla_fn "<lambda>" lamQual params body scope [] pm cdv ctv)
  cd : s.heap.CodeRec cdv lamQual
  nl : s.heap.NoLimit
  pat : PatAt s.heap p
theorem lamC {p f : Addr} {x : Str} {t : Tok} {params : Arguments} {scope : Scope} {pm cdv ctv : Value} {k1 k2 k3 : Nat} {p1 p2 p3 p4 p5 p6 p7 p8 : Pos} (hh : A.handled = none) (hroom : A.depth + 5 < recursionLimit) (hx : x.cps.size ≤ 1000) (hline : (p3.endLine == p5.line) = true)
    (hbind : ∀ (body : PySem.Expr) (a : Addr), bindArgs (kla_fn "<lambda>" lamQual params body scope [] pm cdv ctv) ⟨[.ref a], []⟩ = pure [(("_m" : Str), Value.ref a)]) (hm : scope.names.lookup ("_m" : Str) = some .local)
    (hco : scope.isCoroutine = false) (hgen : scope.isGenerator = false) (hk : scope.kind = .function) (hcell : ∀ x ∈ scope.names, x.2 ≠ .cell) :
    LamC Pw w A p f x t (LamI p f params (.BinOp (.Constant (.str "\\") k1 p1) .Add (.BoolOp .Or [.Call (.Attribute (.Name "_m" p2) "group" p3) [.Constant (.int 1) k2 p4] [] p5, .Constant (.str "") k3 p6] p7) p8) scope pm cdv ctv) := by
  intro args E s a tu b e st hd li B C I h0 hB hC ha ht
  subst hB hC
  obtain ⟨o, ho, hd'⟩ := I.fn
  refine wpAny_call (kla_callFunE (by show A.depth + _ < recursionLimit; exact Nat.lt_of_le_of_lt (Nat.add_le_add_left (by first | exact (show (0 : Nat) ≤ 5 by decide) | exact (show (1 : Nat) ≤ 5 by decide) | exact (show (2 : Nat) ≤ 5 by decide)) _) hroom) ho hd' hco hgen rfl I.cd ?_)
  rw [hbind]
  refine wpAny_pure (wpAny_newFunctionEnv hcell (fun y hy => by rw [List.mem_singleton] at hy; subst hy; exact hm) (fun h₁ hns hsb => ⟨I.nl.fresh _ hsb, ?_⟩) hk)
  have hk₁ : ∀ b o, s.heap.get? b = some o → h₁.get? b = some o := fun b o e => hsb.extBut b o (Nat.ne_of_lt (Heap.lt_size e)) (Heap.get?_push_of_some _ e)
  refine kla_codeExpr (wm (lam_body (by exact hh) hx hm hk hns (by rfl) hline (hk₁ _ _ ha) (hk₁ _ _ ht)) (fun v s' hpt => ?_))
  obtain ⟨h1, ⟨h₂, tk, e2, h3⟩⟩ := hpt
  exact ⟨h1, ⟨h₂, tk, e2, fun b o e => h3 b o (hk₁ b o e)⟩⟩
end
end

section
theorem Step.growPin {c : Ctx0} {A : Around} {G G' : Addr → Option Obj} {s s' : Shared} (g : GS c A G s) (hk : ∀ b o, b ≠ 86 → s.heap.get? b = some o → s'.heap.get? b = some o)
    (hle : ∀ b o, G b = some o → G' b = some o) (hsub : ∀ b o, G' b = some o → G b = some o ∨ (¬ Bel s b ∧ s'.heap.get? b = some o))
    (ht : TabOk G' s'.heap) (hos : s'.os = s.os) (hg : AllBare s.gens → AllBare s'.gens) (htk : s.toks ≤ s'.toks) : Step A (Bel s) G s G' s' where
  sub := fun b o e => by
    rcases hsub b o e with h | h
    · exact hk b o (fun q => by rw [q, g.t86] at h; cases h) (g.sub b o h)
    · exact h.2
  le := hle
  new := fun b h1 h2 => by
    cases e : G' b with
    | none => exact absurd e h2
    | some o =>
      rcases hsub b o e with h | h
      · rw [h1] at h; cases h
      · exact h.1
  keep := fun b o _ e q _ => hk b o q e
  fr := fun b o _ e q => ⟨o.slots, hk b o q e⟩
  os := hos
  gens := hg
  tab := ht
  tk := htk

noncomputable def resubP : PV → Option PV
  | .str x => if x.cps.size ≤ 1000 then (plan (x.cps.size + 1) x.cps 0 0 false).bind fun ps => if JoinOk Str.empty ps = true then some (.str (Txt.join Str.empty ps)) else none else none
  | _ => none

theorem triples_snoc {a b : Int} {v : Value} : ∀ (l : List Value), TriplesOk l → TriplesOk (l ++ [rawInt a, rawInt b, v]) := fun l h => by
  fun_induction TriplesOk l with
  | case1 => simp [TriplesOk, rawInt]
  | case2 a t b u x rest ih => simpa [TriplesOk] using ih h
  | case3 => exact h.elim

structure Kp (c : Ctx0) : Prop where
  at_ : ∃ p, c.mg "_twin_re_1" = some (.ref p) ∧ PatAt c.hb p

section
variable {c : Ctx0} {d : Nat} {ns : List (Str × NK)} {nm : List (Str × NameKind)} {env : Env} {Γ : List Slot}
theorem lam_make (C : Cok c) (T : Kt c) (K : EnvK ns nm env) (hcode : CodeIs c env) (hq : env.qual ++ "<lambda>" = lamQual) {params : Arguments} {body : PySem.Expr} {scope : Scope} (hdef : defaultsOf params env = ([], []))
    (hfree : (scope.names.all fun z => !(z.2 == .free)) = true) {A : Around} {n₀ : Addr → Prop} {G : PH c.w} {s : Shared} {E : Value → Shared → Prop} (S : St c ns env Γ A n₀ G s) :
    wpAny c.M A (eval (.Lambda params body scope lamPos) env) (fun V s' => ∃ (f : Addr) (pm cdv ctv : Value) (G' : PH c.w), V = .ref f ∧ (∃ o, G' f = some o ∧ o.cls = .type "function" ∧ o.data = .func (kla_fn "<lambda>" lamQual params body scope [] pm cdv ctv)) ∧ RecG G' cdv ∧ Step A (Bel s) G s G' s') E s := by
  obtain ⟨cc, hcc, hcd⟩ := hcode
  obtain ⟨bm, ob, BM⟩ := T.bmod
  refine kla_eval hdef ?_
  rw [hq]
  have g := S.gs
  have upb : ∀ b o, c.hb.get? b = some o → s.heap.get? b = some o := g.up
  have b86 : ∀ b o, c.hb.get? b = some o → b ≠ 86 := fun b o e q => by have := g.hb b o e; rw [q, g.t86] at this; cases this
  have hgl : env.globals = mainGlobals := K.ok.globals
  have BMs := BM.keeps upb
  have hg86 : mainGlobals ≠ 86 := by
    obtain ⟨o, es, ep, e, _⟩ := BM.ns
    exact b86 _ _ e
  have hbG : bm ≠ mainGlobals := fun q => by
    obtain ⟨o, es, ep, e, hd, _⟩ := BM.ns
    have h1 := BM.obj
    rw [q, e] at h1; cases h1
    have h2 := BM.data
    rw [hd] at h2; cases h2
  have hBA : s.heap.BuiltinsAt c.mg 86 := ⟨bm, ob, BM.name, BM.ne, hbG, b86 _ _ BM.obj, BMs.obj, BM.cls, BM.dict, BM.data⟩
  obtain ⟨ps, hP, hps⟩ := g.tab
  have hcl : closureFor scope env = pure [] := closureFor_none fun z hz => by simpa using List.all_eq_true.mp hfree z hz
  cases hca : codeAmong lamPos ps.toList with
  | none =>
    refine wpAny_with_toks (Nat.le_refl s.toks) (kla_makeFunction hcl hgl BMs.ns hcc (hcd.keeps upb) hP hps.1 hca hg86 hBA fun c' ctv h' tk hx hge hlt hrec htb htk => ?_)
    obtain ⟨c₂, oc, vs, t, e2, hoc, hd, hv⟩ := hrec
    cases e2
    have Gn : ∀ b, s.heap.objs.size ≤ b → G b = none := fun b hb => by
      cases e : G b with
      | none => rfl
      | some o => exact absurd (Heap.lt_size (g.sub b o e)) (Nat.not_lt.mpr hb)
    have hne : ∀ b, s.heap.objs.size ≤ b → ¬ Bel s b := fun b hb ⟨_, e⟩ => absurd (Heap.lt_size e) (Nat.not_lt.mpr hb)
    let fo : Obj := kla_obj "<lambda>" lamQual params body scope [] ((c.mg "__name__").getD .none) c' ctv
    have hf : s.heap.objs.size ≤ h'.objs.size := Nat.le_trans hge (Nat.le_of_lt hlt)
    let G' : PH c.w := pin (pin G c' oc) h'.objs.size fo
    have hle : ∀ b o, G b = some o → G' b = some o := fun b o e => by
      have hb := Heap.lt_size (g.sub b o e)
      show pin (pin G c' oc) h'.objs.size fo b = some o
      unfold pin
      rw [if_neg (Nat.ne_of_lt (Nat.lt_of_lt_of_le hb hf)), if_neg (Nat.ne_of_lt (Nat.lt_of_lt_of_le hb hge))]; exact e
    have hc' : G' c' = some oc := by
      show pin (pin G c' oc) h'.objs.size fo c' = some oc
      unfold pin
      rw [if_neg (Nat.ne_of_lt hlt), if_pos rfl]
    have hrecG : RecG G' (.ref c') := ⟨c', oc, vs, t, rfl, hc', hd, hv⟩
    refine ⟨h'.objs.size, _, .ref c', ctv, G', rfl, ⟨fo, pin_self, rfl, rfl⟩, hrecG, ?_⟩
    refine Step.growPin g (fun b o q e => Heap.get?_push_of_some _ (hx b o q e)) hle (fun b o e => ?_) ?_ rfl id htk
    · by_cases h1 : b = h'.objs.size
      · subst h1
        have e' : fo = o := by
          have : G' h'.objs.size = some fo := pin_self
          rw [this] at e; cases e; rfl
        subst e'
        exact .inr ⟨hne _ hf, Heap.get?_push_size _ rfl⟩
      · by_cases h2 : b = c'
        · subst h2
          rw [hc'] at e; cases e
          exact .inr ⟨hne _ hge, Heap.get?_push_of_some _ hoc⟩
        · left
          have e' : pin (pin G c' oc) h'.objs.size fo b = some o := e
          unfold pin at e'
          rwa [if_neg h1, if_neg h2] at e'
    · refine ⟨_, Heap.get?_push_of_some _ htb, ?_, fun cv ecv => ?_⟩
      · simpa using triples_snoc ps.toList hps.1
      · have e3 : codeAmong lamPos (ps.toList ++ [rawInt lamPos.line, rawInt lamPos.col, .ref c']) = some (.ref c') := codeAmong_snoc _ hps.1 hca
        have e4 : cv = .ref c' := by
          rw [show (ps ++ #[rawInt lamPos.line, rawInt lamPos.col, .ref c']).toList = ps.toList ++ [rawInt lamPos.line, rawInt lamPos.col, .ref c'] by simp] at ecv
          rw [e3] at ecv; cases ecv; rfl
        rw [e4]; exact hrecG
  | some cv =>
    refine wpAny_with_toks (Nat.le_refl s.toks) (kla_makeFunctionHit hcl hgl BMs.ns hcc (hcd.keeps upb) hP hps.1 hca hBA fun ctv h' tk hk hsz htk => ?_)
    have hle : ∀ b o, G b = some o → pin G h'.objs.size { cls := .type "function", data := .func (kla_fn "<lambda>" lamQual params body scope [] ((c.mg "__name__").getD .none) cv ctv) } b = some o := fun b o e => by
      have hb := Heap.lt_size (g.sub b o e)
      unfold pin
      rw [if_neg (Nat.ne_of_lt (Nat.lt_of_lt_of_le hb hsz))]; exact e
    have R := hps.2 cv hca
    refine ⟨h'.objs.size, _, cv, ctv, _, rfl, ⟨_, pin_self, rfl, rfl⟩, (let ⟨a, o, vs, t, e1, e2, r⟩ := R; ⟨a, o, vs, t, e1, hle _ _ e2, r⟩), ?_⟩
    refine Step.growPin g (fun b o q e => Heap.get?_push_of_some _ (hk b o e)) hle (fun b o e => ?_) ⟨ps, Heap.get?_push_of_some _ (hk _ _ hP), hps.mono hle⟩ rfl id htk
    unfold pin at e
    split at e
    · rename_i h1
      cases e; subst h1
      exact .inr ⟨fun ⟨_, e⟩ => absurd (Heap.lt_size e) (Nat.not_lt.mpr hsz), Heap.get?_push_size _ rfl⟩
    · exact .inl e

theorem LamC.imp {w : World} {A : Around} {p f : Addr} {x : Str} {t : Tok} {I J : Shared → Prop} (h : LamC Pw w A p f x t I) (k : ∀ s, J s → I s) : LamC Pw w A p f x t J :=
  fun args E s a tu b e st hd li B C hI => h args E s a tu b e st hd li B C (k s hI)

theorem CE_resub (C : Cok c) (T : Kt c) (Kp_ : Kp c) (K : EnvK ns nm env) (hcode : CodeIs c env) (hq : env.qual ++ "<lambda>" = lamQual) (hkp : nm.lookup ("_twin_re_1" : Str) = some .globalImplicit) {y : Str} {i : Nat} {k : NK} (hy : findN ns y 0 = some (i, k))
    {params : Arguments} {scope : Scope} {k1 k2 k3 : Nat} {q0 apos pos qy p1 p2 p3 p4 p5 p6 p7 p8 : Pos} {o : PySem.Expr} (ho : o = .Name "_twin_re_1" q0) (hd : 5 ≤ d)
    (hdef : defaultsOf params env = ([], [])) (hfree : (scope.names.all fun z => !(z.2 == .free)) = true) (hcell : (scope.names.all fun z => !(z.2 == .cell)) = true)
    (hline : (p3.endLine == p5.line) = true) (hline2 : (apos.endLine == pos.line) = true)
    (hbind : ∀ (pm cdv ctv : Value) (body : PySem.Expr) (a : Addr), bindArgs (kla_fn "<lambda>" lamQual params body scope [] pm cdv ctv) ⟨[.ref a], []⟩ = pure [(("_m" : Str), Value.ref a)]) (hm : scope.names.lookup ("_m" : Str) = some .local)
    (hco : scope.isCoroutine = false) (hgen : scope.isGenerator = false) (hk : scope.kind = .function) {body : PySem.Expr}
    (hbody : body = (.BinOp (.Constant (.str "\\") k1 p1) .Add (.BoolOp .Or [.Call (.Attribute (.Name "_m" p2) "group" p3) [.Constant (.int 1) k2 p4] [] p5, .Constant (.str "") k3 p6] p7) p8))
    (hbase : attributeBase o "sub" env (eval o env) = eval o env)
    (hs1 : starEach [.Lambda params body scope lamPos, .Name y qy] env = (false, eval (.Lambda params body scope lamPos) env) :: starEach [.Name y qy] env)
    (hs2 : starEach [.Name y qy] env = (false, eval (.Name y qy) env) :: starEach [] env)
    (hfew : ((backTo pos (starEach [.Lambda params body scope lamPos, .Name y qy] env)).all (fun x => !x.1) && (backToKw pos (keywordEach [] env)).all (fun x => x.1.isSome)
      && decide (([.Lambda params body scope lamPos, .Name y qy] : List PySem.Expr).length + ([] : List Keyword).length + (if ([] : List Keyword).isEmpty then 0 else 1) < 30)) = true) :
    CE c d ns env (.Call (.Attribute o "sub" apos) [.Lambda params body scope lamPos, .Name y qy] [] pos) (fun Γ => (rd i Γ).bind resubP) := ⟨fun Γ v hv => by
  obtain ⟨xv, hxv, hv⟩ := bind_some hv
  cases xv with
  | str x =>
    simp only [resubP] at hv
    split at hv
    case isFalse => cases hv
    rename_i hx
    obtain ⟨ps, hps, hv⟩ := bind_some hv
    split at hv
    case isFalse => cases hv
    rename_i hj
    cases hv
    obtain ⟨p, hp1, hp2⟩ := Kp_.at_
    refine ⟨fun A n₀ G s E rm S => ?_⟩
    refine wpAny_Call_method_lateS hbase hfew hline2 ?_
    subst ho
    refine wm ((EX_glob (d := d) (Γ := Γ) C K.ok (kind_glob K hkp) (V := .ref p) (.inl hp1) (by decide)).run A n₀ G s E rm S) (fun V₁ s₁ ⟨G₁, e₁, x₁⟩ => ?_)
    obtain rfl : V₁ = .ref p := e₁
    have S₁ := S.step x₁
    have P₁ := hp2.keeps S₁.gs.up
    refine ⟨"re.Pattern", "re.Pattern.sub", plainAttrs_pattern, slot_sub, type_sub, (P₁.ty.imp fun _ h => ⟨h.1, h.2.1⟩), (fun b e => by cases e; exact P₁.ty.imp fun _ h => ⟨h.1, h.2.2⟩), ?_⟩
    refine callWith_go (c := c) (.builtin _) (by rw [hs1, hs2]; rfl) (PyProof.Rows.args_cons (wm (lam_make C T K hcode hq hdef hfree S₁) (fun V₂ s₂ hpt => ?_)) hs1)
    obtain ⟨f, pm, cdv, ctv, G₂, e₂, ⟨fo, hfo, hfc, hfd⟩, hR, x₂⟩ := hpt
    subst e₂
    have S₂ := S₁.step x₂
    refine PyProof.Rows.args_cons (wm ((EX_name K.ok i (findN_get hy) (rd_eq hxv)).run A n₀ G₂ s₂ E rm S₂) (fun V₃ s₃ ⟨G₃, ⟨t, e₃⟩, x₃⟩ => ?_)) hs2
    subst e₃
    have S₃ := S₂.step x₃
    have g₃ := S₃.gs
    refine wpAny_items_nil ⟨g₃.up, ?_⟩
    have hf3 : s₃.heap.get? f = some fo := g₃.sub _ _ (x₃.le _ _ hfo)
    have hR3 : s₃.heap.CodeRec cdv lamQual := let ⟨a, o, vs, t, e1, e2, r⟩ := hR; ⟨a, o, vs, t, e1, g₃.sub _ _ (x₃.le _ _ e2), r⟩
    have I₃ : ∀ h' : Heap, (∀ b o, s₃.heap.get? b = some o → h'.get? b = some o) → ∀ tk, LamI p f params body scope pm cdv ctv { s₃ with heap := h', toks := tk } := fun h' hk' tk =>
      ⟨⟨fo, hk' _ _ hf3, hfd⟩, hR3.keeps hk', C.nolimit.keeps fun b o e => hk' _ _ (g₃.up _ _ e), hp2.keeps fun b o e => hk' _ _ (g₃.up _ _ e)⟩
    have hroom : A.depth + 5 < recursionLimit := by have := rm.depth; omega
    refine call_sub (hp2.keeps g₃.up) ⟨fo, hf3, hfc⟩ fun R hRet => ?_
    have hl0 := lamC (w := c.w) (A := A) (p := p) (f := f) (x := x) (t := t) (params := params) (scope := scope) (pm := pm) (cdv := cdv) (ctv := ctv) (k1 := k1) (k2 := k2) (k3 := k3) (p1 := p1) (p2 := p2) (p3 := p3) (p4 := p4) (p5 := p5) (p6 := p6) (p7 := p7) (p8 := p8)
      rm.handled hroom hx hline (hbind pm cdv ctv) hm hco hgen hk (fun z hz => by simpa using List.all_eq_true.mp hcell z hz)
    rw [← hbody] at hl0
    let J : Shared → Prop := fun s' => ∃ h' tk, s' = { s₃ with heap := h', toks := tk } ∧ s₃.toks ≤ tk ∧ ∀ b o, s₃.heap.get? b = some o → h'.get? b = some o
    have hlJ : LamC Pw c.w A p f x t J := hl0.imp fun s' ⟨h', tk, e, _, hk'⟩ => by subst e; exact I₃ h' hk' tk
    have htk0 : 0 ≤ s₃.toks := Nat.zero_le _
    refine subLoop (I := J) hlJ (fun s' h'' tk'' ⟨h', tk, e, q1, q2⟩ hle hk'' => ?_) (Nat.le_trans hx (by decide)) (fun s' ⟨h', tk, e, _, hk'⟩ => by subst e; exact (I₃ h' hk' tk).pat) (x.cps.size + 1) _ [] 0 0 0 false ps hps ?_ htk0 ⟨_, Heap.get?_push_size _ rfl⟩ hj (by unfold sizeLine; simp only [List.length_nil]; omega) fun s' t' ⟨h', tk, e, q1, q2⟩ => ?_
    · subst e
      exact ⟨h'', tk'', rfl, Nat.le_trans q1 hle, fun b o e => hk'' b o (Nat.ne_of_lt (Heap.lt_size e)) (q2 b o e)⟩
    · exact ⟨_, s₃.toks, rfl, Nat.le_refl _, fun b o e => Heap.get?_push_of_some _ e⟩
    · subst e
      refine hRet _ _ ⟨G₃, ⟨t', rfl⟩, ((x₁.then x₂).then x₃).then (Step.fresh g₃ q1 q2)⟩
  | _ => cases hv⟩
end
end

section
noncomputable def CodeAt86 (c : Ctx0) (x : Str) : Prop := ∀ a o fd, c.mg x = some (.ref a) → c.hb.get? a = some o → o.data = .func fd → ∃ cc, fd.code = .ref cc ∧ CodeHd c.hb cc 86
theorem Gl_defC {c : Ctx0} {d : Nat} (K : Kc c) {dd : DefRec} (hdd : dd ∈ recsOf Pw) (hc86 : CodeAt86 c dd.name) (ns : List (Str × NK)) (ps : List Str) (k : Nat) {F : SF Out} (hok : fnOk ns dd.scope.names ps = true) (hkind : dd.scope.kind = .function)
    (hco : dd.scope.isCoroutine = false) (hgen : dd.scope.isGenerator = false)
    (hbind : ∀ (pm cd doc : Value) (Vs : List Value), Vs.length = ps.length → bindArgs (Calls.docDef dd.name dd.params dd.body dd.scope pm cd doc) ⟨Vs, []⟩ = pure (ps.zip Vs))
    (hb : ∀ env, EnvK ns dd.scope.names env → env.qual = dd.name ++ ".<locals>." → CodeIs c env → CS c d ns env dd.body F) : Gl c (d + 1) dd.name (fnF ps.length k F) := by
  obtain ⟨a, o, pm, code, doc, h1, h2, h3, h4⟩ := K.fn dd hdd
  refine ⟨.ref a, .inl h1, .fn h2 h3, ⟨fun args v h => ?_⟩⟩
  have O := FnOK.of hok
  obtain ⟨cc, hcc1, hcc2⟩ := hc86 a o _ h1 h2 h3
  unfold fnF at h
  split at h
  · rename_i hl
    obtain ⟨out, ho, h⟩ := bind_some h
    cases out with
    | next _ => cases h
    | brk _ => cases h
    | ret v' =>
      cases h
      have D : DefAt c a (Calls.docDef dd.name dd.params dd.body dd.scope pm code doc) := ⟨⟨o, h2, h3⟩, h4, rfl, rfl, rfl⟩
      refine FN_def K.toCok ps k D rfl O.ps (fun i x kk hi => ?_) O.ndp hl (hbind pm code doc) (fun L => (O.env hkind rfl rfl L a).ok) (fun L i x hi => ?_) (fun L => (hb _ (O.env (fd := Calls.docDef dd.name dd.params dd.body dd.scope pm code doc) hkind rfl rfl L a) rfl ⟨cc, hcc1, hcc2⟩).run _ _ ho) hco hgen
      · rcases (O.each i x kk hi).2 with ⟨e, _⟩ | ⟨e, _⟩ <;> (rw [e]; decide)
      · rcases (O.each i x _ hi).2 with ⟨e, _⟩ | ⟨_, e⟩
        · cases e
        · have := (cellsFrom_gen dd.scope.names { objs := Array.replicate (L + 1) default } []).2.1 x (mem_of_lookup e)
          rw [show ({ objs := Array.replicate (L + 1) default } : Heap).objs.size = L + 1 by simp] at this
          exact this
  · cases h
end

section
structure KA (c : Ctx0) : Prop extends Kc c where
  sp : Special c
  kt : Kt c
  kp : Kp c
  code86 : CodeAt86 c "_translate"
set_option maxHeartbeats 8000000
theorem HQ_ {env : Env} (h : env.qual = (recK 13).name ++ ".<locals>.") : env.qual ++ "<lambda>" = lamQual := by rw [h]; decide +kernel
noncomputable def tr_translate0 : Σ' F : List PV → Option PV, ∀ c, KA c → 0 < c.tk0 → Gl c 7 "_translate" F := by
  refine' ⟨fnF 3 10 _, fun c Ka hk0 => ?_⟩
  rotate_left
  have K := Ka.toKc
  have Sp := Ka.sp
  have Kt_ := Ka.kt
  have Kp_ := Ka.kp
  refine' (show Gl c 7 (recK 13).name (fnF 3 10 _) from ?_)
  apply Gl_defC K (recK_mem (by decide)) (KA.code86 (by assumption)) [("pat", .loc), ("STAR", .loc), ("QUESTION_MARK", .loc), ("res", .loc), ("add", .loc), ("i", .loc), ("n", .loc), ("c", .loc), ("j", .loc), ("stuff", .loc), ("chunks", .loc), ("k", .loc), ("chunk", .loc)] ["pat", "STAR", "QUESTION_MARK"] 10 (by decide +kernel) (by decide +kernel) (by decide +kernel) (by decide +kernel)
  · intro pm cd doc Vs hl
    obtain ⟨_, _, _, rfl⟩ := len3 hl
    rfl
  · intro env KE HQ HC
    refine' CS_cons _ _
    apply C1_own_nil (EnvK.ok (by assumption)) (by rfl) (by rfl)
    rfl
    apply CS_cons
    apply C1_bmeth (by assumption) (by rfl) (by rfl) (by rfl)
    rfl
    rfl
    apply CS_cons
    apply C1_tup_swapped (EnvK.ok (by assumption)) ["i", "n"] [6, 5] (hw := by exact swapped_some (by assumption) (by decide +kernel))
    apply CL_cons
    apply CE_int
    apply CL_cons
    apply CE_callT (Kc.toCok (by assumption)) (by assumption) (by decide +kernel) (GlV_len (by assumption))
    apply CT_name (by assumption); rfl
    rfl
    rfl
    rfl
    apply CL_nil
    intros; rfl
    intros; rfl
    rfl
    rfl
    apply CS_cons
    apply C1_while 64
    apply CB_cmp (b := COp_lt)
    apply CT_name (by assumption); rfl
    apply CT_name (by assumption); rfl
    rfl
    apply CS_cons
    apply C1_assign (EnvK.ok (by assumption)) (by rfl) (by rfl) (hs := by rfl)
    apply CE_sub2
    apply CE_name (by assumption); rfl
    apply CE_name (by assumption); rfl
    intro cenv KE
    rfl
    apply CS_cons
    apply C1_assign (EnvK.ok (by assumption)) (by rfl) (by rfl) (hs := by rfl)
    apply CE_bin (b := BOp_add)
    apply CE_name (by assumption); rfl
    apply CE_int
    apply CS_cons
    apply C1_if
    apply CB_cmp (b := COp_eq)
    apply CT_name (by assumption); rfl
    apply CE.t
    apply CE_str
    rfl
    apply CS_cons
    apply C1_if
    apply CB_or
    apply CB_not
    apply CB_truth (he := by intros; rfl)
    apply CT_name (by assumption); rfl
    apply CB_cmp (b := COp_isnot)
    apply CE.t
    apply CE_sub2
    apply CE_name (by assumption); rfl
    apply CE_neg
    apply CE_int
    intro cenv KE
    rfl
    apply CT_name (by assumption); rfl
    rfl
    apply CS_cons
    apply C1_bcall (by assumption) (by rfl)
    apply CE_name (by assumption); rfl
    rfl
    rfl
    exact interactive_no (by assumption)
    rfl
    apply CS_nil
    apply CS_nil
    apply CS_nil
    apply CS_cons
    apply C1_if
    apply CB_cmp (b := COp_eq)
    apply CT_name (by assumption); rfl
    apply CE.t
    apply CE_str
    rfl
    apply CS_cons
    apply C1_bcall (by assumption) (by rfl)
    apply CE_name (by assumption); rfl
    rfl
    rfl
    exact interactive_no (by assumption)
    rfl
    apply CS_nil
    apply CS_cons
    apply C1_if
    apply CB_cmp (b := COp_eq)
    apply CT_name (by assumption); rfl
    apply CE.t
    apply CE_str
    rfl
    apply CS_cons
    apply C1_assign (EnvK.ok (by assumption)) (by rfl) (by rfl) (hs := by rfl)
    apply CE_name (by assumption); rfl
    apply CS_cons
    apply C1_if
    apply CB_and
    apply CB_cmp (b := COp_lt)
    apply CT_name (by assumption); rfl
    apply CT_name (by assumption); rfl
    rfl
    apply CB_cmp (b := COp_eq)
    apply CE.t
    apply CE_sub2
    apply CE_name (by assumption); rfl
    apply CE_name (by assumption); rfl
    intro cenv KE
    rfl
    apply CE.t
    apply CE_str
    rfl
    apply CS_cons
    apply C1_assign (EnvK.ok (by assumption)) (by rfl) (by rfl) (hs := by rfl)
    apply CE_bin (b := BOp_add)
    apply CE_name (by assumption); rfl
    apply CE_int
    apply CS_nil
    apply CS_nil
    apply CS_cons
    apply C1_if
    apply CB_and
    apply CB_cmp (b := COp_lt)
    apply CT_name (by assumption); rfl
    apply CT_name (by assumption); rfl
    rfl
    apply CB_cmp (b := COp_eq)
    apply CE.t
    apply CE_sub2
    apply CE_name (by assumption); rfl
    apply CE_name (by assumption); rfl
    intro cenv KE
    rfl
    apply CE.t
    apply CE_str
    rfl
    apply CS_cons
    apply C1_assign (EnvK.ok (by assumption)) (by rfl) (by rfl) (hs := by rfl)
    apply CE_bin (b := BOp_add)
    apply CE_name (by assumption); rfl
    apply CE_int
    apply CS_nil
    apply CS_nil
    apply CS_cons
    apply C1_while 64
    apply CB_and
    apply CB_cmp (b := COp_lt)
    apply CT_name (by assumption); rfl
    apply CT_name (by assumption); rfl
    rfl
    apply CB_cmp (b := COp_ne)
    apply CE.t
    apply CE_sub2
    apply CE_name (by assumption); rfl
    apply CE_name (by assumption); rfl
    intro cenv KE
    rfl
    apply CE.t
    apply CE_str
    rfl
    apply CS_cons
    apply C1_assign (EnvK.ok (by assumption)) (by rfl) (by rfl) (hs := by rfl)
    apply CE_bin (b := BOp_add)
    apply CE_name (by assumption); rfl
    apply CE_int
    apply CS_nil
    apply CS_cons
    apply C1_if
    apply CB_cmp (b := COp_ge)
    apply CT_name (by assumption); rfl
    apply CT_name (by assumption); rfl
    rfl
    apply CS_cons
    apply C1_bcall (by assumption) (by rfl)
    apply CE_str
    rfl
    rfl
    exact interactive_no (by assumption)
    rfl
    apply CS_nil
    apply CS_cons
    apply C1_assign (EnvK.ok (by assumption)) (by rfl) (by rfl) (hs := by rfl)
    apply CE_slice
    apply CE_name (by assumption); rfl
    apply CO_some
    apply CE_name (by assumption); rfl
    apply CO_some
    apply CE_name (by assumption); rfl
    apply CS_cons
    apply C1_if
    apply CB_cmp (b := COp_notin)
    apply CE.t
    apply CE_str
    apply CT_name (by assumption); rfl
    rfl
    apply CS_cons
    apply C1_assign (EnvK.ok (by assumption)) (by rfl) (by rfl) (hs := by rfl)
    apply CE_replace (by assumption)
    apply CE_name (by assumption); rfl
    rfl
    rfl
    apply CS_nil
    apply CS_cons
    apply C1_own_nil (EnvK.ok (by assumption)) (by rfl) (by rfl)
    rfl
    apply CS_cons
    apply C1_assign (EnvK.ok (by assumption)) (by rfl) (by rfl) (hs := by rfl)
    apply CE_if
    apply CB_cmp (b := COp_eq)
    apply CE.t
    apply CE_sub2
    apply CE_name (by assumption); rfl
    apply CE_name (by assumption); rfl
    intro cenv KE
    rfl
    apply CE.t
    apply CE_str
    rfl
    apply CE_bin (b := BOp_add)
    apply CE_name (by assumption); rfl
    apply CE_int
    apply CE_bin (b := BOp_add)
    apply CE_name (by assumption); rfl
    apply CE_int
    apply CS_cons
    apply C1_while 64
    apply CB_truth (he := by intros; rfl)
    apply CE.t
    apply CE_bool
    apply CS_cons
    apply C1_assign (EnvK.ok (by assumption)) (by rfl) (by rfl) (hs := by rfl)
    apply CE_meth SM_find
    apply CE_name (by assumption); rfl
    apply CL_cons
    apply CE_str
    apply CL_cons
    apply CE_name (by assumption); rfl
    apply CL_cons
    apply CE_name (by assumption); rfl
    apply CL_nil
    intros; rfl
    intros; rfl
    intros; rfl
    rfl
    rfl
    intro cenv KE
    rfl
    intro cenv KE
    rfl
    apply CS_cons
    apply C1_if
    apply CB_cmp (b := COp_lt)
    apply CT_name (by assumption); rfl
    apply CE.t
    apply CE_int
    rfl
    apply CS_cons
    apply C1_brk
    apply CS_nil
    apply CS_nil
    apply CS_cons
    apply C1_append (by assumption) (by rfl)
    apply CE_slice
    apply CE_name (by assumption); rfl
    apply CO_some
    apply CE_name (by assumption); rfl
    apply CO_some
    apply CE_name (by assumption); rfl
    rfl
    rfl
    rfl
    rfl
    exact interactive_no (by assumption)
    rfl
    apply CS_cons
    apply C1_assign (EnvK.ok (by assumption)) (by rfl) (by rfl) (hs := by rfl)
    apply CE_bin (b := BOp_add)
    apply CE_name (by assumption); rfl
    apply CE_int
    apply CS_cons
    apply C1_assign (EnvK.ok (by assumption)) (by rfl) (by rfl) (hs := by rfl)
    apply CE_bin (b := BOp_add)
    apply CE_name (by assumption); rfl
    apply CE_int
    apply CS_nil
    apply CS_cons
    apply C1_assign (EnvK.ok (by assumption)) (by rfl) (by rfl) (hs := by rfl)
    apply CE_slice
    apply CE_name (by assumption); rfl
    apply CO_some
    apply CE_name (by assumption); rfl
    apply CO_some
    apply CE_name (by assumption); rfl
    apply CS_cons
    apply C1_if
    apply CB_truth (he := by intros; rfl)
    apply CT_name (by assumption); rfl
    apply CS_cons
    apply C1_append (by assumption) (by rfl)
    apply CE_name (by assumption); rfl
    rfl
    rfl
    rfl
    rfl
    exact interactive_no (by assumption)
    rfl
    apply CS_nil
    apply CS_cons
    apply C1_augsub (by assumption) (hi := by rfl) (o := IOp_add)
    apply CE_neg
    apply CE_int
    apply CE_str
    intro cenv KE
    intros; rfl
    apply CS_nil
    apply CS_cons
    apply C1_for1 (EnvK.ok (by assumption)) (by rfl) (by decide)
    apply CI_range (Kc.toCok (by assumption)) (by assumption) (by decide +kernel) (Kc.gv (by assumption) (by decide +kernel) (by decide +kernel))
    apply CL_cons
    apply CE_bin (b := BOp_sub)
    apply CE_callT (Kc.toCok (by assumption)) (by assumption) (by decide +kernel) (GlV_len (by assumption))
    apply CT_name (by assumption); rfl
    rfl
    rfl
    rfl
    apply CE_int
    apply CL_cons
    apply CE_int
    apply CL_cons
    apply CE_neg
    apply CE_int
    apply CL_nil
    intros; rfl
    intros; rfl
    intros; rfl
    rfl
    rfl
    intro cenv KE
    rfl
    apply CS_cons
    apply C1_if
    apply CB_dead
    apply CS_cons
    apply C1_dstore (by assumption) (by rfl)
    apply CE_bin (b := BOp_sub)
    apply CE_name (by assumption); rfl
    apply CE_int
    apply CE_bin (b := BOp_add)
    apply CE_slice
    apply CE_sub2
    apply CE_name (by assumption); rfl
    apply CE_bin (b := BOp_sub)
    apply CE_name (by assumption); rfl
    apply CE_int
    intro cenv KE
    rfl
    apply CO_none
    apply CO_some
    apply CE_neg
    apply CE_int
    apply CE_slice
    apply CE_sub2
    apply CE_name (by assumption); rfl
    apply CE_name (by assumption); rfl
    intro cenv KE
    rfl
    apply CO_some
    apply CE_int
    apply CO_none
    rfl
    apply CS_cons
    apply C1_dead
    apply CS_nil
    apply CS_nil
    apply CS_nil
    intros; rfl
    apply CS_cons
    apply C1_assign (EnvK.ok (by assumption)) (by rfl) (by rfl) (hs := by rfl)
    refine CE_joingen (f := repS (repS some _ _) _ _) (Kc.toCok (by assumption)) (by assumption) (by assumption) (by assumption) (by rfl) (EltS_replace (EltS_replace (EltS_name (by rfl)) (by intros; rfl) (by rfl)) (by intros; rfl) (by rfl)) (by rfl) (by decide +kernel) (by decide +kernel) (by decide +kernel) (by decide +kernel) (by decide +kernel) (by rfl) (by decide) (by intros; rfl) (by rfl) (by rfl)
    apply CS_nil
    apply CS_cons
    apply C1_assign (EnvK.ok (by assumption)) (by rfl) (by rfl) (hs := by rfl)
    apply CE_resub (Kc.toCok (by assumption)) (by assumption) (by assumption) (by assumption) (by assumption) (HQ_ (by assumption)) (hkp := by decide +kernel) (hy := by rfl) (ho := by rfl) (hd := by decide) (hbody := by rfl)
    rfl
    rfl
    rfl
    rfl
    rfl
    rfl
    rfl
    rfl
    rfl
    intro cenv KE
    intro cenv KE
    intros; rfl
    rfl
    rfl
    rfl
    rfl
    apply CS_cons
    apply C1_assign (EnvK.ok (by assumption)) (by rfl) (by rfl) (hs := by rfl)
    apply CE_bin (b := BOp_add)
    apply CE_name (by assumption); rfl
    apply CE_int
    apply CS_cons
    apply C1_if
    apply CB_not
    apply CB_truth (he := by intros; rfl)
    apply CT_name (by assumption); rfl
    apply CS_cons
    apply C1_bcall (by assumption) (by rfl)
    apply CE_str
    rfl
    rfl
    exact interactive_no (by assumption)
    rfl
    apply CS_nil
    apply CS_cons
    apply C1_if
    apply CB_cmp (b := COp_eq)
    apply CT_name (by assumption); rfl
    apply CE.t
    apply CE_str
    rfl
    apply CS_cons
    apply C1_bcall (by assumption) (by rfl)
    apply CE_str
    rfl
    rfl
    exact interactive_no (by assumption)
    rfl
    apply CS_nil
    apply CS_cons
    apply C1_if
    apply CB_cmp (b := COp_eq)
    apply CE.t
    apply CE_sub2
    apply CE_name (by assumption); rfl
    apply CE_int
    intro cenv KE
    rfl
    apply CE.t
    apply CE_str
    rfl
    apply CS_cons
    apply C1_assign (EnvK.ok (by assumption)) (by rfl) (by rfl) (hs := by rfl)
    apply CE_bin (b := BOp_add)
    apply CE_str
    apply CE_slice
    apply CE_name (by assumption); rfl
    apply CO_some
    apply CE_int
    apply CO_none
    apply CS_nil
    apply CS_cons
    apply C1_if
    apply CB_cmp (b := COp_in)
    apply CE.t
    apply CE_sub2
    apply CE_name (by assumption); rfl
    apply CE_int
    intro cenv KE
    rfl
    apply CE.t
    apply CE_tuple
    apply CL_cons
    apply CE_str
    apply CL_cons
    apply CE_str
    apply CL_nil
    intros; rfl
    intros; rfl
    rfl
    apply CS_cons
    apply C1_assign (EnvK.ok (by assumption)) (by rfl) (by rfl) (hs := by rfl)
    apply CE_bin (b := BOp_add)
    apply CE_str
    apply CE_name (by assumption); rfl
    apply CS_nil
    apply CS_nil
    apply CS_nil
    apply CS_cons
    apply C1_bcall (by assumption) (by rfl)
    apply CE_fstr
    apply CE_name (by assumption); rfl
    rfl
    rfl
    exact interactive_no (by assumption)
    rfl
    apply CS_nil
    apply CS_nil
    apply CS_nil
    apply CS_nil
    apply CS_cons
    apply C1_bcall (by assumption) (by rfl)
    apply CE_call (Kc.toCok (by assumption)) (by assumption) (by decide +kernel) (by exact Gl.up (tr_escape.2 _ (by assumption) (by assumption)) (by decide))
    apply CL_cons
    apply CE_name (by assumption); rfl
    apply CL_nil
    intros; rfl
    rfl
    rfl
    intro cenv KE
    rfl
    rfl
    rfl
    exact interactive_no (by assumption)
    rfl
    apply CS_nil
    apply CS_nil
    apply CS_nil
    apply CS_nil
    apply CS_cons
    apply C1_assert
    apply CB_cmp (b := COp_eq)
    apply CT_name (by assumption); rfl
    apply CT_name (by assumption); rfl
    rfl
    apply CS_cons
    apply C1_ret_name (by assumption) (by rfl)
    apply CS_nil
end

section
noncomputable abbrev Ctx0.one (c : Ctx0) : Ctx0 := { c with tk0 := 1 }
theorem KA.one {c : Ctx0} (K : KA c) : KA c.one :=
  { g := K.g, b := K.b, nolimit := K.nolimit, fn := K.fn, boot := K.boot, sp := ⟨K.sp.at_⟩, kt := ⟨K.kt.bmod⟩, kp := ⟨K.kp.at_⟩, code86 := K.code86 }
theorem GS.one {c : Ctx0} {A G s} (g : GS c A G s) (h : 0 < s.toks) : GS c.one A G s := ⟨g.hb, g.sub, g.fs, g.t86, g.tab, h⟩
section
variable {c : Ctx0} {d : Nat} {ns : List (Str × NK)} {env : Env} {Γ : List Slot} {nm : List (Str × NameKind)}
structure CLK (c : Ctx0) (d : Nat) (ns : List (Str × NK)) (env : Env) (es : List PySem.Expr) (F : SF (List PV)) : Prop where
  run : ∀ Γ vs, F Γ = some vs → ∀ (A : Around) (n₀ : Addr → Prop) (G : PH c.w) (s : Shared) (E : Value → Shared → Prop) (pos : Pos), Rm d A → St c ns env Γ A n₀ G s →
    wpAny c.M A (spliced (backTo pos (starEach es env))) (fun Vs s' => XPL A G s vs Vs s' ∧ 0 < s'.toks) E s
theorem CLK_here {i k p} : CLK c d ns env [.Constant (.str i) k p] (fun _ => some [.str i]) := ⟨fun Γ vs hv A n₀ G s E pos rm S => by
  cases hv
  refine PyProof.Rows.args_cons (wpAny_Constant_str ?_) (by rfl)
  have x := (Step.refl (n₀ := Bel s) S.gs).toks (s.toks + 1) (Nat.le_succ _)
  exact wpAny_items_nil ⟨⟨G, ⟨_, _, rfl, ⟨_, rfl⟩, rfl⟩, x⟩, Nat.succ_pos _⟩⟩
theorem CLK_cons {e es F H} (h : CE c d ns env e F) (hs : CLK c d ns env es H) (he : ∀ env, starEach (e :: es) env = (false, eval e env) :: starEach es env) : CLK c d ns env (e :: es) (consF F H) := ⟨fun Γ v hv A n₀ G s E pos rm S => by
  obtain ⟨a, ha, hv⟩ := bind_some hv
  obtain ⟨r, hr, hv⟩ := bind_some hv
  cases hv
  refine PyProof.Rows.args_cons (wm ((h.run Γ _ ha).run A n₀ G s E rm S) (fun V₁ s₁ ⟨G₁, hh₁, x₁⟩ => ?_)) (he env)
  have S₁ := S.step x₁
  exact wm (hs.run Γ _ hr A n₀ G₁ s₁ E pos rm S₁) (fun V₂ s₂ ⟨⟨G₂, hh₂, x₂⟩, k⟩ => ⟨⟨G₂, ⟨_, _, rfl, hh₁.mono x₂.le, hh₂⟩, x₁.then x₂⟩, k⟩)⟩
theorem CE_callK (C : Cok c) (K : EnvK ns nm env) {x : Str} {np pos : Pos} {args : List PySem.Expr} {F : SF (List PV)} {f : List PV → Option PV} (hk : nm.lookup x = some .globalImplicit) (g : Gl c.one d x f) (h : CLK c d ns env args F)
    (hd : (x == ("__debug__" : Str)) = false)
    (he : eval (.Call (.Name x np) args [] pos) env = (do callWith pos (← eval (.Name x np) env) [] (backTo pos (starEach args env)) (backToKw pos (keywordEach [] env))))
    (hp : ∀ pos env, (backTo pos (starEach args env)).any (·.1) = false) : CE c d ns env (.Call (.Name x np) args [] pos) (fun Γ => (F Γ).bind f) := ⟨fun Γ v hv => by
  obtain ⟨vs, hvs, hv⟩ := bind_some hv
  obtain ⟨V, gv, cal, ff⟩ := g.at_
  have cal' : Callee c V := by
    cases cal with
    | builtin id => exact .builtin id
    | type n => exact .type n
    | fn a b => exact .fn a b
  refine ⟨fun A n₀ G s E rm S => ?_⟩
  rw [he]
  refine wb ((EX_glob C K.ok (kind_glob K hk) gv hd).run A n₀ G s E rm S) (fun V₁ s₁ ⟨G₁, hh₁, x₁⟩ => ?_)
  have hV : V₁ = V := hh₁
  subst hV
  have S₁ := S.step x₁
  refine callWith_go cal' (hp pos env) (wm (h.run Γ _ hvs A n₀ G₁ s₁ E pos rm S₁) (fun Vs s₂ ⟨⟨G₂, hh₂, x₂⟩, k⟩ => ?_))
  have S₂ := S₁.step x₂
  exact ⟨S₂.gs.up, wm ((ff.run _ _ hv).run A G₂ s₂ Vs E rm (S₂.gs.one k) S₂.big hh₂) (fun V₃ s₃ ⟨G₃, hh₃, x₃⟩ => ⟨G₃, hh₃, (x₁.then x₂).then x₃⟩)⟩⟩
end
end

section
set_option maxHeartbeats 8000000
noncomputable def tr_translate1 : Σ' F : List PV → Option PV, ∀ c, KA c → Gl c 8 "translate" F := by
  refine' ⟨fnF 1 2 _, fun c Ka => ?_⟩
  rotate_left
  have K := Ka.toKc
  have Sp := Ka.sp
  have Kt_ := Ka.kt
  have Kp_ := Ka.kp
  refine' (show Gl c 8 (recK 8).name (fnF 1 2 _) from ?_)
  apply Gl_def K (recK_mem (by decide)) [("pat", .loc), ("STAR", .loc), ("parts", .loc)] ["pat"] 2 (by decide +kernel) (by decide +kernel) (by decide +kernel) (by decide +kernel)
  · intro pm cd doc Vs hl
    obtain ⟨x, rfl⟩ := List.length_eq_one_iff.mp hl
    rfl
  · intro env KE
    refine' CS_cons _ _
    apply C1_assign (EnvK.ok (by assumption)) (by rfl) (by rfl) (hs := by rfl)
    apply CE_call (Kc.toCok (by assumption)) (by assumption) (by decide +kernel) (by exact Gl_object (by assumption))
    apply CL_nil
    rfl
    rfl
    intro cenv KE
    rfl
    apply CS_cons
    apply C1_assign (EnvK.ok (by assumption)) (by rfl) (by rfl) (hs := by rfl)
    apply CE_callK (Kc.toCok (by assumption)) (by assumption) (by decide +kernel) (Gl.up (tr_translate0.2 _ (KA.one (by assumption)) (Nat.succ_pos 0)) (by decide))
    apply CLK_cons
    apply CE_name (by assumption); rfl
    apply CLK_cons
    apply CE_name (by assumption); rfl
    apply CLK_here
    intros; rfl
    intros; rfl
    rfl
    rfl
    intro cenv KE
    rfl
    apply CS_cons
    apply C1_ret
    apply CE_call (Kc.toCok (by assumption)) (by assumption) (by decide +kernel) (by exact Gl.up (tr_join_translated_parts.2 _ (by assumption)) (by decide))
    apply CL_cons
    apply CE_name (by assumption); rfl
    apply CL_cons
    apply CE_name (by assumption); rfl
    apply CL_nil
    intros; rfl
    intros; rfl
    rfl
    rfl
    intro cenv KE
    rfl
    apply CS_nil
end

section
section
variable {c : Ctx0} {d : Nat} {ns : List (Str × NK)} {env : Env} {Γ : List Slot} {nm : List (Str × NameKind)}
theorem store_ref (ok : EnvOK ns env) {i : Nat} {x : Str} {k : NK} (hi : ns[i]? = some (x, k)) (hk : k ≠ .cap) {A n₀} {G : PH c.w} {s V} (S : StV c ns env Γ A n₀ G s V) {o : Obj} {sl : Slot} {a : Addr} (ha : s.heap.get? a = some o) (hcell : ∀ v, o.data ≠ .cell v)
    (hL : a ≠ env.locals) (hap : ∀ j y, Γ[j]? = some y → y.owned = true → V j ≠ some (.ref a))
    (hsl : ∀ (h' : Heap) (V : Nat → Option Value), h'.get? a = some o → SlotR env.locals A n₀ G h' V sl (some (.ref a))) {E : Value → Shared → Prop} {Q : Unit → Shared → Prop}
    (hQ : ∀ s', Step A n₀ G s G s' → St c ns env ((clr i Γ).set i sl) A n₀ G s' → Q () s') :
    wpAny c.M A (storeName env x (.ref a)) Q E s := by
  refine wm (store_core ok hi hk S (v := .ref a) (sl := sl) (fun h' b hs' hb => ?_) (fun _ j y _ hy ho => hap j y hy ho)) (fun _ s' ⟨x, y⟩ => hQ s' x ⟨_, y⟩)
  have hne := hb a o ha hL hcell
  exact hsl h' _ ((hs'.2 _ hne).trans ha)

theorem C1_pairOD (ok : EnvOK ns env) {kk k2 : Nat} {x y : Str} {px py tp dp p pos : Pos} {e : PySem.Expr} {F : SF PV} {i j : Nat} {ki kj : NK} (hi : findN ns x 0 = some (i, ki)) (hki : (ki != .cap) = true) (hj : findN ns y 0 = some (j, kj)) (hkj : (kj != .cap) = true)
    (h : CE c d ns env e F) (he : ∀ env, starEach [e, .Dict [] [] dp] env = [(false, eval e env), (false, eval (.Dict [] [] dp) env)])
    (hs : swapsWithSole [.Tuple [.Name x px, .Name y py] kk tp] (.Tuple [e, .Dict [] [] dp] k2 p) pos.line env = pure false) (hw : swappedStores [.Tuple [.Name x px, .Name y py] kk tp] (.Tuple [e, .Dict [] [] dp] k2 p) env = pure (some [x, y])) :
    C1 c d ns env (.Assign [.Tuple [.Name x px, .Name y py] kk tp] (.Tuple [e, .Dict [] [] dp] k2 p) pos) (fun Γ => (F Γ).map fun v => .next (bd1 i v ((clr j Γ).set j (.odict [])))) := ⟨fun Γ o hv => by
  obtain ⟨v, hvv, e'⟩ := Option.map_eq_some_iff.mp hv
  subst e'
  refine ⟨fun A n₀ G s E rm S => Assign_Tuple_swapped (wpAny_Tuple_spliced ?_) hs hw⟩
  refine PyProof.Rows.args_cons (wm ((h.run Γ v hvv).run A n₀ G s E rm S) (fun V₁ s₁ ⟨G₁, hh₁, x₁⟩ => ?_)) (he env)
  have S₁ := S.step x₁
  refine PyProof.Rows.args_cons (wpAny_Dict_empty ?_) rfl
  refine wpAny_items_nil ⟨by simp [sizeLine], ?_⟩
  generalize ha : s₁.heap.objs.size = a
  obtain ⟨V, SV⟩ := S₁
  have nb : ¬ Bel s₁ a := ha ▸ fresh_size
  have Ga : G₁ a = none := ha ▸ none_size SV.gs
  have h86 : 86 < a := ha ▸ St.big ⟨V, SV⟩
  refine wpAny_unpackItems_tuple (items := #[V₁, .ref a]) rm.handled ⟨_, Heap.get?_push_size _ rfl, rfl, 0, rfl⟩ fun h₄ he₄ => ?_
  have up : ∀ b o, s₁.heap.get? b = some o → h₄.get? b = some o := fun b o e => by
    have e1 := Heap.get?_push_of_some ({ cls := .type "dict", data := .dict #[] } : Obj) e
    have e2 := Heap.get?_push_of_some ({ cls := .type "tuple", data := .seq [V₁, .ref a].toArray } : Obj) e1
    exact he₄ b o (Nat.ne_of_lt (Heap.lt_size e2)) e2
  have hD : h₄.get? a = some { cls := .type "dict", data := .dict #[] } := by
    have e1 : (s₁.heap.push ({ cls := .type "dict", data := .dict #[] } : Obj)).get? a = some { cls := .type "dict", data := .dict #[] } := ha ▸ Heap.get?_push_size _ rfl
    have e2 := Heap.get?_push_of_some ({ cls := .type "tuple", data := .seq [V₁, .ref a].toArray } : Obj) e1
    exact he₄ _ _ (Nat.ne_of_lt (Heap.lt_size e2)) e2
  have S₄ := SV.fresh (tk := s₁.toks) (Nat.le_refl _) up
  have st₄ := Step.fresh (n₁ := n₀) SV.gs (tk := s₁.toks) (Nat.le_refl _) up
  have hL : a ≠ env.locals := fun q => by
    obtain ⟨m, hn, _⟩ := SV.loc; obtain ⟨o', e, _⟩ := ns_obj0 hn; exact nb (q ▸ ⟨o', e⟩)
  have hF : a ∉ FS A := fun q => nb (FS_lt SV.gs q)
  have hna : ¬ n₀ a := fun q => nb (SV.bel _ q)
  show wpAny _ _ (assignInOrder [bindName env y, bindName env x] [.ref a, V₁]) _ _ _
  refine assignInOrder_cons (wpAny_bindName (store_ref ok (findN_get hj) (by simpa using hkj) S₄ (sl := .odict []) hD (fun v h => nomatch h) hL (fun l y hy ho e => ?_)
    (fun h' V' e => ⟨a, _, [], rfl, Ga, hL, hF, hna, e, ⟨h86, #[], 0, ⟨rfl, rfl, rfl⟩, rfl, fun e he => by simp at he, .nil, List.nodup_nil⟩, rfl⟩) fun s₅ x₅ S₅ => ?_))
  · have z := SV.slot l _ hy
    cases y with
    | own xs => obtain ⟨b, vs, n, e', g, _, _, _, hg, _⟩ := z; rw [e] at e'; cases e'; exact nb ⟨_, hg⟩
    | odict es => obtain ⟨b, o', kvs, e', g, _, _, _, hg, _⟩ := z; rw [e] at e'; cases e'; exact nb ⟨_, hg⟩
    | _ => cases ho
  · refine assignInOrder_cons (wpAny_bindName (wm (store_val ok (findN_get hi) (by simpa using hki) S₅ hh₁) (fun _ s₆ ⟨x₆, S₆⟩ => ?_)))
    exact assignInOrder_nil ⟨G₁, ⟨rfl, S₆⟩, (((x₁.up (St.n0 S)).trans st₄).trans x₅).trans x₆⟩⟩
end
end

section
set_option maxHeartbeats 8000000
noncomputable def tr_law_judge : Σ' F : List PV → Option PV, ∀ c, KA c → 0 < c.tk0 → Gl c 9 "_law_judge" F := by
  refine' ⟨fnF 3 7 _, fun c Ka hk0 => ?_⟩
  rotate_left
  have K := Ka.toKc
  have Sp := Ka.sp
  have Kt_ := Ka.kt
  have Kp_ := Ka.kp
  refine' (show Gl c 9 (recK 34).name (fnF 3 7 _) from ?_)
  apply Gl_def K (recK_mem (by decide)) [("front", .loc), ("bracket", .loc), ("behind", .loc), ("text", .loc), ("ahead", .loc), ("after", .loc), ("body", .loc), ("signs", .loc), ("barred", .loc), ("place", .loc)] ["front", "bracket", "behind"] 7 (by decide +kernel) (by decide +kernel) (by decide +kernel) (by decide +kernel)
  · intro pm cd doc Vs hl
    obtain ⟨_, _, _, rfl⟩ := len3 hl
    rfl
  · intro env KE
    refine' CS_cons _ _
    apply C1_assign (EnvK.ok (by assumption)) (by rfl) (by rfl) (hs := by rfl)
    apply CE_call (Kc.toCok (by assumption)) (by assumption) (by decide +kernel) (by exact Gl.up (tr_translate1.2 _ (by assumption)) (by decide))
    apply CL_cons
    apply CE_bin (b := BOp_add)
    apply CE_bin (b := BOp_add)
    apply CE_name (by assumption); rfl
    apply CE_name (by assumption); rfl
    apply CE_name (by assumption); rfl
    apply CL_nil
    intros; rfl
    rfl
    rfl
    intro cenv KE
    rfl
    apply CS_cons
    apply C1_tup_swapped (EnvK.ok (by assumption)) ["ahead", "after"] [5, 4] (hw := by exact swapped_some (by assumption) (by decide +kernel))
    apply CL_cons
    apply CE_bin (b := BOp_add)
    apply CE_bin (b := BOp_add)
    apply CE_str
    apply CE_replace (by assumption)
    apply CE_name (by assumption); rfl
    rfl
    rfl
    apply CE_str
    apply CL_cons
    apply CE_bin (b := BOp_add)
    apply CE_bin (b := BOp_add)
    apply CE_str
    apply CE_replace (by assumption)
    apply CE_name (by assumption); rfl
    rfl
    rfl
    apply CE_str
    apply CL_nil
    intros; rfl
    intros; rfl
    rfl
    rfl
    apply CS_cons
    apply C1_tup_swapped (EnvK.ok (by assumption)) ["body", "signs"] [7, 6] (hw := by exact swapped_some (by assumption) (by decide +kernel))
    apply CL_cons
    apply CE_slice
    apply CE_name (by assumption); rfl
    apply CO_some
    apply CE_callT (Kc.toCok (by assumption)) (by assumption) (by decide +kernel) (GlV_len (by assumption))
    apply CT_name (by assumption); rfl
    rfl
    rfl
    rfl
    apply CO_some
    apply CE_neg
    apply CE_callT (Kc.toCok (by assumption)) (by assumption) (by decide +kernel) (GlV_len (by assumption))
    apply CT_name (by assumption); rfl
    rfl
    rfl
    rfl
    apply CL_cons
    apply CE_str
    apply CL_nil
    intros; rfl
    intros; rfl
    rfl
    rfl
    apply CS_cons
    apply C1_assign (EnvK.ok (by assumption)) (by rfl) (by rfl) (hs := by rfl)
    apply CE_cmp (b := COp_eq)
    apply CE.t
    apply CE_slice
    apply CE_name (by assumption); rfl
    apply CO_none
    apply CO_some
    apply CE_int
    apply CE.t
    apply CE_str
    rfl
    apply CS_cons
    apply C1_assign (EnvK.ok (by assumption)) (by rfl) (by rfl) (hs := by rfl)
    apply CE_if
    apply CB_truth (he := by intros; rfl)
    apply CT_name (by assumption); rfl
    apply CE_int
    apply CE_int
    apply CS_cons
    apply C1_while 64
    apply CB_cmp (b := COp_lt)
    apply CT_name (by assumption); rfl
    apply CE.t
    apply CE_callT (Kc.toCok (by assumption)) (by assumption) (by decide +kernel) (GlV_len (by assumption))
    apply CT_name (by assumption); rfl
    rfl
    rfl
    rfl
    rfl
    apply CS_cons
    apply C1_aug (by assumption) (o := IOp_add)
    rfl
    rfl
    apply CE_if
    apply CB_cmp (b := COp_eq)
    apply CE.t
    apply CE_sub2
    apply CE_name (by assumption); rfl
    apply CE_name (by assumption); rfl
    intro cenv KE
    rfl
    apply CE.t
    apply CE_str
    rfl
    apply CE_int
    apply CE_int
    apply CS_cons
    apply C1_aug (by assumption) (o := IOp_add)
    rfl
    rfl
    apply CE_sub2
    apply CE_name (by assumption); rfl
    apply CE_name (by assumption); rfl
    intro cenv KE
    rfl
    apply CS_cons
    apply C1_aug (by assumption) (o := IOp_add)
    rfl
    rfl
    apply CE_int
    apply CS_nil
    apply CS_cons
    apply C1_ret
    apply CE_if
    apply CB_cmp (b := COp_eq)
    apply CT_name (by assumption); rfl
    apply CE.t
    apply CE_bin (b := BOp_add)
    apply CE_bin (b := BOp_add)
    apply CE_name (by assumption); rfl
    apply CE_name (by assumption); rfl
    apply CE_name (by assumption); rfl
    rfl
    apply CE_tuple
    apply CL_cons
    apply CE_name (by assumption); rfl
    apply CL_cons
    apply CE_name (by assumption); rfl
    apply CL_nil
    intros; rfl
    intros; rfl
    apply CE_tuple
    apply CL_cons
    apply CE_bool
    apply CL_cons
    apply CE_str
    apply CL_nil
    intros; rfl
    intros; rfl
    apply CS_nil
end

section
set_option maxHeartbeats 8000000
noncomputable def tr_law_rows : Σ' F : List PV → Option PV, ∀ c, KA c → Gl c 10 "_law_rows" F := by
  refine' ⟨fnF 3 5 _, fun c Ka => ?_⟩
  rotate_left
  have K := Ka.toKc
  have Sp := Ka.sp
  have Kt_ := Ka.kt
  have Kp_ := Ka.kp
  refine' (show Gl c 10 (recK 35).name (fnF 3 5 _) from ?_)
  apply Gl_def K (recK_mem (by decide)) [("folders", .loc), ("listing", .loc), ("turn", .loc), ("lasts", .loc), ("table", .loc), ("choice", .loc), ("barred", .own), ("signs", .own)] ["folders", "listing", "turn"] 5 (by decide +kernel) (by decide +kernel) (by decide +kernel) (by decide +kernel)
  · intro pm cd doc Vs hl
    obtain ⟨_, _, _, rfl⟩ := len3 hl
    rfl
  · intro env KE
    refine' CS_cons _ _
    apply C1_pairOD (EnvK.ok (by assumption)) (by rfl) (by rfl) (by rfl) (by rfl) (hw := by exact swapped_some (by assumption) (by decide +kernel))
    apply CE_compA1 (by assumption) (by decide +kernel) (by decide +kernel) (by rfl) (by rfl)
    apply CI_val
    apply CE_name (by assumption); rfl
    intro cenv KE
    apply CTs_nil
    intro cenv KE
    apply CE_call (Kc.toCok (by assumption)) (by assumption) (by decide +kernel) (by exact Gl.up (tr_basename.2 _ (by assumption)) (by decide))
    apply CL_cons
    apply CE_name (by assumption); rfl
    apply CL_nil
    intros; rfl
    rfl
    rfl
    intro cenv KE
    rfl
    intros; rfl
    intros; rfl
    rfl
    apply CS_cons
    apply C1_for1 (EnvK.ok (by assumption)) (by rfl) (by decide)
    apply CI_val
    apply CE_call (Kc.toCok (by assumption)) (by assumption) (by decide +kernel) (by exact Gl.up (tr_law_choices.2 _ (by assumption)) (by decide))
    apply CL_cons
    apply CE_name (by assumption); rfl
    apply CL_nil
    intros; rfl
    rfl
    rfl
    intro cenv KE
    rfl
    apply CS_cons
    apply C1_tup_plain (EnvK.ok (by assumption)) ["barred", "signs"] [6, 7] (ha := ⟨[_, _], rfl, rfl⟩)
    apply CE_callK (Kc.toCok (by assumption)) (by assumption) (by decide +kernel) (Gl.up (tr_law_judge.2 _ (KA.one (by assumption)) (Nat.succ_pos 0)) (by decide))
    apply CLK_cons
    apply CE_str
    apply CLK_cons
    apply CE_call (Kc.toCok (by assumption)) (by assumption) (by decide +kernel) (by exact Gl.up (tr_law_bracket.2 _ (by assumption)) (by decide))
    apply CL_cons
    apply CE_name (by assumption); rfl
    apply CL_cons
    apply CE_name (by assumption); rfl
    apply CL_cons
    apply CE_name (by assumption); rfl
    apply CL_nil
    intros; rfl
    intros; rfl
    intros; rfl
    rfl
    rfl
    intro cenv KE
    rfl
    apply CLK_here
    intros; rfl
    intros; rfl
    rfl
    rfl
    intro cenv KE
    rfl
    rfl
    rfl
    rfl
    apply CS_cons
    apply C1_dstore (by assumption) (by rfl)
    apply CE_name (by assumption); rfl
    apply CE_compA2 (by assumption) (by decide +kernel) (by decide +kernel) (by rfl) (by rfl) (by rfl) (by rfl)
    apply CI_zip (Kc.toCok (by assumption)) (by assumption) (by decide +kernel) (Kc.gv (by assumption) (by decide +kernel) (by decide +kernel))
    apply CL_cons
    apply CE_name (by assumption); rfl
    apply CL_cons
    apply CE_name (by assumption); rfl
    apply CL_nil
    intros; rfl
    intros; rfl
    rfl
    rfl
    intro cenv KE
    rfl
    intro cenv KE
    apply CTs_one
    apply CB_cmp (b := COp_ne)
    apply CE.t
    apply CE_cmp (b := COp_in)
    apply CE.t
    apply CE_sub2
    apply CE_name (by assumption); rfl
    apply CE_int
    intro cenv KE
    rfl
    apply CT_name (by assumption); rfl
    rfl
    apply CT_name (by assumption); rfl
    rfl
    intro cenv KE
    apply CE_name (by assumption); rfl
    intros; rfl
    rfl
    apply CS_nil
    intros; rfl
    apply CS_cons
    apply C1_ret_name (by assumption) (by rfl)
    apply CS_nil
noncomputable def tr_law_columns : Σ' F : List PV → Option PV, ∀ c, KA c → Gl c 10 "_law_columns" F := by
  refine' ⟨fnF 3 5 _, fun c Ka => ?_⟩
  rotate_left
  have K := Ka.toKc
  have Sp := Ka.sp
  have Kt_ := Ka.kt
  have Kp_ := Ka.kp
  refine' (show Gl c 10 (recK 36).name (fnF 3 5 _) from ?_)
  apply Gl_def K (recK_mem (by decide)) [("names", .loc), ("listing", .loc), ("turn", .loc), ("tops", .loc), ("table", .loc), ("choice", .loc), ("barred", .own), ("signs", .own)] ["names", "listing", "turn"] 5 (by decide +kernel) (by decide +kernel) (by decide +kernel) (by decide +kernel)
  · intro pm cd doc Vs hl
    obtain ⟨_, _, _, rfl⟩ := len3 hl
    rfl
  · intro env KE
    refine' CS_cons _ _
    apply C1_pairOD (EnvK.ok (by assumption)) (by rfl) (by rfl) (by rfl) (by rfl) (hw := by exact swapped_some (by assumption) (by decide +kernel))
    apply CE_compA1 (by assumption) (by decide +kernel) (by decide +kernel) (by rfl) (by rfl)
    apply CI_val
    apply CE_name (by assumption); rfl
    intro cenv KE
    apply CTs_nil
    intro cenv KE
    apply CE_call (Kc.toCok (by assumption)) (by assumption) (by decide +kernel) (by exact Gl.up (tr_basename.2 _ (by assumption)) (by decide))
    apply CL_cons
    apply CE_call (Kc.toCok (by assumption)) (by assumption) (by decide +kernel) (by exact Gl.up (tr_dirname.2 _ (by assumption)) (by decide))
    apply CL_cons
    apply CE_name (by assumption); rfl
    apply CL_nil
    intros; rfl
    rfl
    rfl
    intro cenv KE
    rfl
    apply CL_nil
    intros; rfl
    rfl
    rfl
    intro cenv KE
    rfl
    intros; rfl
    intros; rfl
    rfl
    apply CS_cons
    apply C1_for1 (EnvK.ok (by assumption)) (by rfl) (by decide)
    apply CI_val
    apply CE_call (Kc.toCok (by assumption)) (by assumption) (by decide +kernel) (by exact Gl.up (tr_law_choices.2 _ (by assumption)) (by decide))
    apply CL_cons
    apply CE_name (by assumption); rfl
    apply CL_nil
    intros; rfl
    rfl
    rfl
    intro cenv KE
    rfl
    apply CS_cons
    apply C1_tup_plain (EnvK.ok (by assumption)) ["barred", "signs"] [6, 7] (ha := ⟨[_, _], rfl, rfl⟩)
    apply CE_callK (Kc.toCok (by assumption)) (by assumption) (by decide +kernel) (Gl.up (tr_law_judge.2 _ (KA.one (by assumption)) (Nat.succ_pos 0)) (by decide))
    apply CLK_cons
    apply CE_str
    apply CLK_cons
    apply CE_call (Kc.toCok (by assumption)) (by assumption) (by decide +kernel) (by exact Gl.up (tr_law_bracket.2 _ (by assumption)) (by decide))
    apply CL_cons
    apply CE_name (by assumption); rfl
    apply CL_cons
    apply CE_name (by assumption); rfl
    apply CL_cons
    apply CE_name (by assumption); rfl
    apply CL_nil
    intros; rfl
    intros; rfl
    intros; rfl
    rfl
    rfl
    intro cenv KE
    rfl
    apply CLK_here
    intros; rfl
    intros; rfl
    rfl
    rfl
    intro cenv KE
    rfl
    rfl
    rfl
    rfl
    apply CS_cons
    apply C1_dstore (by assumption) (by rfl)
    apply CE_name (by assumption); rfl
    apply CE_compA2 (by assumption) (by decide +kernel) (by decide +kernel) (by rfl) (by rfl) (by rfl) (by rfl)
    apply CI_zip (Kc.toCok (by assumption)) (by assumption) (by decide +kernel) (Kc.gv (by assumption) (by decide +kernel) (by decide +kernel))
    apply CL_cons
    apply CE_name (by assumption); rfl
    apply CL_cons
    apply CE_name (by assumption); rfl
    apply CL_nil
    intros; rfl
    intros; rfl
    rfl
    rfl
    intro cenv KE
    rfl
    intro cenv KE
    apply CTs_one
    apply CB_cmp (b := COp_ne)
    apply CE.t
    apply CE_cmp (b := COp_in)
    apply CE.t
    apply CE_sub2
    apply CE_name (by assumption); rfl
    apply CE_int
    intro cenv KE
    rfl
    apply CT_name (by assumption); rfl
    rfl
    apply CT_name (by assumption); rfl
    rfl
    intro cenv KE
    apply CE_name (by assumption); rfl
    intros; rfl
    rfl
    apply CS_nil
    intros; rfl
    apply CS_cons
    apply C1_ret_name (by assumption) (by rfl)
    apply CS_nil
end

section
noncomputable def leS (a b : Str) : Bool := !decide (b.cps.toList < a.cps.toList)
noncomputable def insS (x : Str) : List Str → List Str
  | [] => [x]
  | y :: r => if leS x y then x :: y :: r else y :: insS x r
noncomputable def sortS : List Str → List Str
  | [] => []
  | x :: r => insS x (sortS r)
theorem leS_iff {a b : Str} : leS a b = true ↔ a.cps.toList ≤ b.cps.toList := by
  unfold leS
  rw [Bool.not_eq_true', decide_eq_false_iff_not, List.not_lt]
theorem leS_total (a b : Str) : leS a b = true ∨ leS b a = true := by
  rw [leS_iff, leS_iff]; exact List.le_total _ _
theorem leS_trans {a b d : Str} (h : leS a b = true) (h2 : leS b d = true) : leS a d = true := by
  rw [leS_iff] at *; exact List.le_trans h h2
theorem leS_anti {a b : Str} (h : leS a b = true) (h2 : leS b a = true) : a = b := by
  rw [leS_iff] at *
  have := List.le_antisymm h h2
  cases a; cases b
  simp only [Str.mk.injEq]
  exact Array.toList_inj.mp this
theorem insS_perm (x : Str) : ∀ l, (insS x l).Perm (x :: l)
  | [] => .refl _
  | y :: r => by
    unfold insS
    split
    · exact .refl _
    · exact ((insS_perm x r).cons y).trans (.swap ..)
theorem sortS_perm : ∀ l, (sortS l).Perm l
  | [] => .refl _
  | x :: r => (insS_perm x (sortS r)).trans ((sortS_perm r).cons x)
noncomputable def Sd (l : List Str) : Prop := l.Pairwise fun a b => leS a b = true
theorem insS_sd (x : Str) : ∀ l, Sd l → Sd (insS x l)
  | [], _ => List.pairwise_singleton _ _
  | y :: r, h => by
    obtain ⟨h1, h2⟩ := List.pairwise_cons.mp h
    unfold insS
    split
    · rename_i hxy
      exact List.pairwise_cons.mpr ⟨fun z hz => by
        rcases List.mem_cons.mp hz with rfl | hz
        · exact hxy
        · exact leS_trans hxy (h1 z hz), h⟩
    · rename_i hxy
      refine List.pairwise_cons.mpr ⟨fun z hz => ?_, insS_sd x r h2⟩
      rcases List.mem_cons.mp ((insS_perm x r).mem_iff.mp hz) with rfl | hz
      · exact (leS_total z y).resolve_left hxy
      · exact h1 z hz
theorem sortS_sd : ∀ l, Sd (sortS l)
  | [] => List.Pairwise.nil
  | x :: r => insS_sd x _ (sortS_sd r)
theorem sd_unique : ∀ {l m : List Str}, Sd l → Sd m → l.Perm m → l = m
  | [], m, _, _, h => (List.nil_perm.mp h).symm
  | x :: l, [], _, _, h => absurd (List.perm_nil.mp h) (by simp)
  | x :: l, y :: m, hl, hm, h => by
    obtain ⟨l1, l2⟩ := List.pairwise_cons.mp hl
    obtain ⟨m1, m2⟩ := List.pairwise_cons.mp hm
    have e : x = y := by
      have hx : x ∈ y :: m := h.mem_iff.mp List.mem_cons_self
      have hy : y ∈ x :: l := h.mem_iff.mpr List.mem_cons_self
      rcases List.mem_cons.mp hx with q | hx
      · exact q
      · rcases List.mem_cons.mp hy with q | hy
        · exact q.symm
        · exact leS_anti (l1 y hy) (m1 x hx)
    subst e
    rw [sd_unique l2 m2 (List.perm_cons x |>.mp h)]
theorem sd_of_rising : ∀ (r : List Str) (p : Str), risingS p r = true → Sd (p :: r)
  | [], p, _ => List.pairwise_singleton _ _
  | x :: r, p, h => by
    unfold risingS at h
    simp only [Bool.and_eq_true, Bool.not_eq_true'] at h
    have hx : leS p x = true := by
      unfold leS
      rw [← ltCps_eq, h.1]; rfl
    have ih := sd_of_rising r x h.2
    refine List.pairwise_cons.mpr ⟨fun z hz => ?_, ih⟩
    rcases List.mem_cons.mp hz with rfl | hz
    · exact hx
    · exact leS_trans hx ((List.pairwise_cons.mp ih).1 z hz)
theorem sd_of_sortedS {l : List Str} (h : sortedS l = true) : Sd l := by
  cases l with
  | nil => exact List.Pairwise.nil
  | cons x r => exact sd_of_rising r x h
theorem sort_eq {l ss : List Str} (hp : l.Perm ss) (h : sortedS l = true) : l = sortS ss := sd_unique (sd_of_sortedS h) (sortS_sd ss) (hp.trans (sortS_perm ss).symm)

theorem strs_are {w : World} {G : PH w} : ∀ {ss : List Str} {vs : List Value}, HoldsL G (ss.map .str) vs → StrsAre vs ss
  | [], _, h => by rw [show _ = [] from h]; exact .nil
  | x :: ss, _, h => by obtain ⟨v, r, rfl, ⟨t, rfl⟩, h2⟩ := h; exact .cons x t (strs_are h2)
theorem are_strs {w : World} {G : PH w} : ∀ {vs : List Value} {ss : List Str}, StrsAre vs ss → HoldsL G (ss.map .str) vs
  | _, _, .nil => rfl
  | _, _, .cons x t h => ⟨_, _, rfl, ⟨t, rfl⟩, are_strs h⟩
section
variable {c : Ctx0} {d : Nat} {ns : List (Str × NK)} {env : Env} {Γ : List Slot} {nm : List (Str × NameKind)}
noncomputable def sortedP (args : List PV) : Option PV := (args1 args).bind fun v => (aList v).bind fun xs => (strsP xs).bind fun ss => if ss.length < 64 then some (.list ((sortS ss).map .str)) else none
theorem FF_sorted : FF c d (.builtin "sorted") sortedP := ⟨fun args v h => by
  obtain ⟨v1, hv1, h⟩ := bind_some h
  obtain ⟨xs, hxs, h⟩ := bind_some h
  obtain ⟨ss, hss, h⟩ := bind_some h
  obtain ⟨hl, rfl⟩ := ifsome h
  · rw [args1_eq hv1, aList_eq hxs, strsP_eq hss]
    clear h hv1 hxs hss
    refine ⟨fun A G s Vs E _ g _ hh => ?_⟩
    obtain ⟨_, _, rfl, ⟨a, vs, n, rfl, ga, hv⟩, rfl⟩ := hh
    have hlen : vs.length = ss.length := by simpa using hv.length
    refine wpAny_mono (wpAny_toks (sorted_strs (Q := fun v s' => ∃ vs' e h', v = .ref (s.heap.objs.size + 1) ∧ s' = { s with heap := h' } ∧ (∀ b o, s.heap.get? b = some o → h'.get? b = some o) ∧ h'.get? (s.heap.objs.size + 1) = some (lobj vs' e) ∧ StrsAre vs' (sortS ss))
      ⟨_, g.sub _ _ ga, rfl, n, rfl⟩ (strs_are hv) (by rw [hlen]; exact hl) fun out ss' h1 h2 h3 => ?_)) (fun v s' hpt => ?_) fun _ _ e => e.2
    · obtain ⟨e, he⟩ := sortedAll_at s.heap vs out
      refine ⟨out.toList, e, _, rfl, rfl, fun b o hb => sortedAll_old hb, by simpa [seqObj] using he, ?_⟩
      rw [← sort_eq h2 h3]; exact h1
    · obtain ⟨htk, vs', e, h', e1, e2, hk, hat, hs⟩ := hpt
      subst e1 e2
      have nb : ∀ b, s.heap.objs.size ≤ b → ¬ Bel s b ∧ G b = none := fun b hb => ⟨fun ⟨_, e⟩ => absurd (Heap.lt_size e) (Nat.not_lt.mpr hb), by
        cases e : G b with
        | none => rfl
        | some o => exact absurd (Heap.lt_size (g.sub _ _ e)) (Nat.not_lt.mpr hb)⟩
      have st := Step.fresh (n₁ := Bel s) g (h' := h') (tk := s.toks) (Nat.le_refl _) hk
      exact ⟨_, ⟨_, vs', e, rfl, pin_self, are_strs hs⟩, st.pinL hat (nb _ (Nat.le_succ _)).2 (nb _ (Nat.le_succ _)).1⟩⟩
theorem Gl_sorted (K : Kc c) : Gl c d "sorted" sortedP := ⟨_, K.gv (by decide +kernel) (by decide +kernel), .builtin _, FF_sorted⟩

noncomputable def listP2 : List PV → Option PV
  | [.dict es] => if es.length ≤ 16777216 then some (.list (es.map fun e => .str e.1)) else none
  | l => listP l
set_option tactic.hygienic true in
theorem FF_list2 : FF c d (.type "list") listP2 := ⟨fun args v h => by
  unfold listP2 at h
  split at h
  · rename_i es
    split at h
    case isFalse => cases h
    rename_i hl
    cases h
    refine ⟨fun A G s Vs E rm g _ hh => ?_⟩
    obtain ⟨_, _, rfl, ⟨a, o, kvs, rfl, ga, ⟨h86, hd⟩, hv⟩, rfl⟩ := hh
    have ha := g.sub _ _ ga
    obtain ⟨ep, L⟩ := hd.at_ ha
    refine wpAny_mono (wpAny_toks (kdl_call (Q := fun v s' => ∃ h' tk vs n, v = .ref s.heap.objs.size ∧ s' = { s with heap := h', toks := tk } ∧ (∀ b o, s.heap.get? b = some o → h'.get? b = some o) ∧ h'.get? s.heap.objs.size = some (lobj vs n) ∧ HoldsL G (es.map fun e => .str e.1) vs)
      (kdl_dict (knd := PySem.strKind Pw c.w) (sys_ne h86)) rm.handled L (by rw [hv.length]; exact kdl_size hl) fun h' tk acc' c' hk hat hi => ?_)) (fun v s' hpt => ?_) fun _ _ e => e.2
    · refine ⟨h', tk, acc'.toList, c', rfl, rfl, hk, by simpa using hat, ?_⟩
      have key : ∀ (es : List (Str × PV)) (ks : List Value), ks.length = es.length → (∀ (j : Nat) v k, ks[j]? = some v → (es[j]?).map (·.1) = some k → (PySem.strKind Pw c.w).is k v = true) → HoldsL G (es.map fun e => PV.str e.1) ks := by
        intro es
        induction es with
        | nil => intro ks hk _; exact List.length_eq_zero_iff.mp hk
        | cons p r ih =>
          intro ks hk hh
          cases ks with
          | nil => simp at hk
          | cons v ks =>
            exact ⟨v, ks, rfl, str_is (hh 0 v p.1 rfl rfl), ih ks (by simpa using hk) fun j u k h1 h2 => hh (j + 1) u k (by simpa using h1) (by simpa using h2)⟩
      refine key es _ (by rw [Array.length_toList, hi.1, hv.length]) fun j v k h1 h2 => ?_
      obtain ⟨k', x, h3, h4⟩ := hi.2 j v (by rw [← Array.getElem?_toList]; exact h1)
      have e3 : (kvs.map (·.1))[j]? = some k' := by rw [List.getElem?_map, h3]; rfl
      rw [hv.keys, List.getElem?_map] at e3
      rw [e3] at h2; cases h2
      exact h4
    · obtain ⟨htk, h', tk, vs, n, e1, e2, hk, hat, hs⟩ := hpt
      subst e1 e2
      have st := Step.fresh (n₁ := Bel s) g (h' := h') (tk := tk) htk hk
      exact ⟨_, ⟨_, vs, n, rfl, pin_self, hs.mono (pin_keep (none_size g))⟩, st.pinL hat (none_size g) fresh_size⟩
  · exact FF_list.run _ _ h⟩
theorem Gl_list2 (K : Kc c) : Gl c d "list" listP2 := ⟨_, K.gv (by decide +kernel) (by decide +kernel), .type _, FF_list2⟩

noncomputable def intsP : List PV → Option (List Int)
  | [] => some []
  | .int x :: r => (intsP r).map (x :: ·)
  | _ => none
theorem intsP_eq : ∀ {xs : List PV} {ss : List Int}, intsP xs = some ss → xs = ss.map .int
  | [], _ => fun h => by cases h; rfl
  | v :: r, _ => by
    cases v with
    | int x =>
      intro h
      obtain ⟨t, h1, rfl⟩ := Option.map_eq_some_iff.mp h
      rw [intsP_eq h1]; rfl
    | _ => exact nsome
noncomputable def sumP (args : List PV) : Option PV := (args1 args).bind fun v => (aList v).bind fun xs => (intsP xs).map fun ns => .int ns.sum
theorem int_items {w : World} {G : PH w} : ∀ {ns : List Int} {vs : List Value}, HoldsL G (ns.map .int) vs → ∃ xs : Array (Int × Tok), vs.toArray = intItems xs ∧ xs.toList.map (·.1) = ns
  | [], _, h => by rw [show _ = [] from h]; exact ⟨#[], by simp [intItems], rfl⟩
  | x :: ns, _, h => by
    obtain ⟨v, r, rfl, ⟨t, rfl⟩, h2⟩ := h
    obtain ⟨xs, e1, e2⟩ := int_items h2
    refine ⟨⟨(x, t) :: xs.toList⟩, ?_, by simp [e2]⟩
    have e3 : r = xs.toList.map fun p => Value.int p.1 p.2 := by
      have := congrArg Array.toList e1
      simpa [intItems] using this
    simp [intItems, e3]
theorem FF_sum : FF c d (.builtin "sum") sumP := ⟨fun args v h => by
  obtain ⟨v1, hv1, h⟩ := bind_some h
  obtain ⟨xs, hxs, h⟩ := bind_some h
  obtain ⟨ns, hns, rfl⟩ := Option.map_eq_some_iff.mp h
  · rw [args1_eq hv1, aList_eq hxs, intsP_eq hns]
    clear h hv1 hxs hns
    refine ⟨fun A G s Vs E rm g _ hh => ?_⟩
    obtain ⟨_, _, rfl, ⟨a, vs, n, rfl, ga, hv⟩, rfl⟩ := hh
    obtain ⟨xs, e1, e2⟩ := int_items hv
    refine wpAny_mono (wpAny_toks (sum_intListG (xs := xs) (Q := fun v s' => ∃ h' tk t', v = .int ns.sum t' ∧ s' = { s with heap := h', toks := tk } ∧ (∀ b o, s.heap.get? b = some o → h'.get? b = some o)) rm.handled ⟨_, g.sub _ _ ga, rfl, n, by rw [← e1]⟩ fun h' tk t' hk => ⟨h', tk, t', ?_, rfl, hk⟩))
      (fun v s' ⟨htk, h', tk, t', e3, e4, hk⟩ => ?_) fun _ _ e => e.2
    · have e3 : ns.sum = preSum (numAt xs) xs.size := by rw [preSum_eq, ← e2, List.take_of_length_le (by simp)]
      rw [e3]
    · subst e3 e4
      exact ⟨G, ⟨t', rfl⟩, Step.fresh g htk hk⟩⟩
theorem Gl_sum (K : Kc c) : Gl c d "sum" sumP := ⟨_, K.gv (by decide +kernel) (by decide +kernel), .builtin _, FF_sum⟩
end
end

section
structure SXsF (c : Ctx0) (d : Nat) (ns : List (Str × NK)) (env : Env) (Γ : List Slot) (st : List Stmt) (o : Out) : Prop where
  run : ∀ (A : Around) (n₀ : Addr → Prop) (G : PH c.w) (s : Shared) (E : Value → Shared → Prop), Rm d A → (∃ F, A.frames = some (env :: F)) → St c ns env Γ A n₀ G s →
    wpAny c.M A (execs st env) (SP c ns env A n₀ G s o) E s
theorem FN_defB {c : Ctx0} (C : Cok c) {d : Nat} {f : Addr} {fd : FuncData} {body : List Stmt} {ns : List (Str × NK)} {args args' : List PV} {v : PV} (ps : List Str) (k : Nat) (D : DefAt c f fd) (hbody : fd.body = .stmts body)
    (hns : ∀ (i : Nat) x, ps[i]? = some x → ∃ kk, ns[i]? = some (x, kk)) (hcap : ∀ (i : Nat) x kk, ns[i]? = some (x, kk) → kk ≠ .cap) (hps : ps.Nodup) (hlen : args'.length = ps.length)
    (hbind : ∀ (A : Around) (G : PH c.w) (s : Shared) (Vs : List Value) (E : Value → Shared → Prop) (Q : List (Str × Value) → Shared → Prop), GS c A G s → 86 < s.heap.objs.size → HoldsL G args Vs →
      (∀ Ws (G' : PH c.w) s', HoldsL G' args' Ws → Step A (Bel s) G s G' s' → Q (ps.zip Ws) s') → wpAny c.M A (bindArgs fd ⟨Vs, []⟩) Q E s)
    (hok : ∀ L, EnvOK ns (callEnvC fd L f)) (hcells : ∀ L (i : Nat) x, ns[i]? = some (x, .own) → ((callEnvC fd L f).cells.lookup x).isSome = true)
    (hb : ∀ L, SXsF c d ns (callEnvC fd L f) (start args' k) body (.ret v))
    (hco : fd.scope.isCoroutine = false) (hgen : fd.scope.isGenerator = false) : FN c (d + 1) (.ref f) args v := ⟨fun A G s Vs E rm g big hh => by
  obtain ⟨o, ho, hd⟩ := D.at_
  have key : ∀ (G : PH c.w) (s : Shared) (Vs : List Value) (R : Result → Shared → Prop), GS c A G s → 86 < s.heap.objs.size → HoldsL G args' Vs → (∀ V s'', XP A G s v V s'' → R (.ok (.ret V)) s'') →
      wpAny c.M A.in1 (newFunctionEnv fd.scope fd.globals [] (ps.zip Vs) (fd.qualname ++ ".<locals>.") (some f) fd.code none fd.builtins) (fun env s₂ => s₂.heap.NoLimit ∧ codeAny c.M A (.func body env) R s₂) (fun e s' => R (.error e) s') s := by
   clear hh big g
   intro G s Vs R g big hh hR
   have hl : Vs.length = ps.length := hh.length.trans hlen
   have hk : fd.scope.kind = .function := (hok 0).fn
   have kindEq : ∀ L x, (callEnvC fd L f).kindOf x = fd.scope.names.lookup x := fun _ _ => rfl
   refine (wpAny_mono (wpAny_toks (wpAny_newFunctionEnv_cells (Q := fun env s' => env = callEnvC fd s.heap.objs.size f ∧
     InCallC s env.locals (bindL env.kindOf (ps.zip Vs) fun _ => none) env.cells (bindC env.kindOf (ps.zip Vs) fun _ => none) s') hk (fun x hx => ?_) fun env he s' x => ⟨he, he ▸ x⟩)) ?_ fun _ _ e => e.2)
   · obtain ⟨i, hi⟩ := List.getElem?_of_mem hx
     have hxp : ps[i]? = some x.1 := by
       rw [List.getElem?_zip_eq_some] at hi; exact hi.1
     obtain ⟨kk, hkk⟩ := hns i x.1 hxp
     cases kk with
     | loc => exact .inl ((hok 0).loc i _ hkk)
     | own => exact .inr ⟨(hok 0).own i _ hkk, hcells s.heap.objs.size i _ hkk⟩
     | cap => exact absurd rfl (hcap _ _ _ hkk)
   · rintro env s₁ ⟨htk, rfl, X⟩
     have keep := X.toInCall.keep
     refine ⟨C.nolimit.keeps fun b o e => keep b o (g.up b o e), codeAny_func ?_⟩
     obtain ⟨F, hF, hall⟩ := rm.frames
     have hL : (callEnvC fd s.heap.objs.size f).locals = s.heap.objs.size := rfl
     have hfs : FS (A.deeper (callEnvC fd s.heap.objs.size f)) = s.heap.objs.size :: FS A := FS_deeper hF rfl
     have Gn : ∀ b, s.heap.objs.size ≤ b → G b = none := fun b hb => by
       cases e : G b with
       | none => rfl
       | some o => exact absurd (Heap.lt_size (g.sub b o e)) (Nat.not_lt.mpr hb)
     obtain ⟨h₁, tk₁, e₁⟩ := X.toInCall.same
     obtain ⟨oL, eL, dL, dL3⟩ := ns_obj X.toInCall.ns
     have tab₁ : TabOk G s₁.heap := let ⟨ps, p1, p2⟩ := g.tab; ⟨ps, keep _ _ p1, p2⟩
     have x₀ : Step A (Bel s) G s G s₁ := ⟨fun b o e => keep b o (g.sub b o e), fun _ _ e => e, fun _ h1 h2 => absurd h1 h2, fun b o _ e _ _ => keep b o e, fun b o _ e _ => ⟨o.slots, keep b o e⟩,
       by rw [e₁], by rw [e₁]; exact id, tab₁, htk⟩
     have g₁ : GS c (A.deeper (callEnvC fd s.heap.objs.size f)) G s₁ := by
       refine ⟨g.hb, x₀.sub, ?_, g.t86, tab₁, Nat.le_trans g.tk htk⟩
       intro L hLm
       rw [hfs] at hLm
       rcases List.mem_cons.mp hLm with rfl | hLm
       · exact ⟨Gn _ (Nat.le_refl _), oL, eL, dL⟩
       · obtain ⟨q1, o, q2, q3⟩ := g.fs L hLm
         exact ⟨q1, o, keep _ _ q2, q3⟩
     have ok := hok s.heap.objs.size
     let V : Nat → Option Value := fun i => match ns[i]? with
       | some (x, .loc) => bindL (callEnvC fd s.heap.objs.size f).kindOf (ps.zip Vs) (fun _ => none) x
       | some (x, _) => bindC (callEnvC fd s.heap.objs.size f).kindOf (ps.zip Vs) (fun _ => none) x
       | none => none
     have SV : StV c ns (callEnvC fd s.heap.objs.size f) (start args' k) (A.deeper (callEnvC fd s.heap.objs.size f)) (Bel s) G s₁ V := by
       refine ⟨g₁, (let ⟨_, h1, _⟩ := g.tab; ⟨_, h1⟩), fun b ⟨o, e⟩ => ⟨o, keep b o e⟩, ?_, ⟨_, X.toInCall.ns, ?_⟩, ⟨Gn _ (Nat.le_refl _), fun ⟨_, e⟩ => Nat.lt_irrefl _ (Heap.lt_size e)⟩, ?_, ?_, ?_⟩
       · intro L hLm
         rw [hfs] at hLm
         rcases List.mem_cons.mp hLm with rfl | hLm
         · exact .inr rfl
         · exact .inl (FS_lt g hLm)
       · intro i x hi
         show _ = V i
         simp only [V, hi]
       · intro i x kk hi hkk
         cases kk with
         | loc => exact absurd rfl hkk
         | cap => exact absurd rfl (hcap _ _ _ hi)
         | own =>
           obtain ⟨a, ha⟩ := Option.isSome_iff_exists.mp (hcells s.heap.objs.size i x hi)
           refine ⟨a, ha, ?_, fun _ => ?_⟩
           · show s₁.heap.IsCell a (V i)
             simp only [V, hi]
             exact X.cell x a ha
           · have := X.above x a (mem_of_lookup ha)
             exact ⟨Gn a (Nat.le_of_lt this), fun ⟨_, e⟩ => Nat.lt_asymm this (Heap.lt_size e)⟩
       · intro i sl hsl
         rcases start_get hsl with ⟨u, hu, rfl⟩ | rfl
         · obtain ⟨W, hW, hold⟩ := hh.vals hu
           have hip : i < ps.length := by
             rw [← hlen]; exact (List.getElem?_eq_some_iff.mp hu).1
           have hpi : ps[i]? = some ps[i] := List.getElem?_eq_getElem hip
           obtain ⟨kk, hkk⟩ := hns i _ hpi
           have B := bindLC_get (callEnvC fd s.heap.objs.size f).kindOf ps Vs i _ W (fun _ => none) (fun _ => none) hps hpi hW
           refine ⟨W, ?_, hold⟩
           show V i = some W
           simp only [V, hkk]
           cases kk with
           | loc => exact B.1 (ok.loc i _ hkk)
           | own => exact B.2 (by rw [ok.own i _ hkk]; decide)
           | cap => exact absurd rfl (hcap _ _ _ hkk)
         · trivial
       · intro i j x y _ hx _ ho _
         rcases start_get hx with ⟨u, _, rfl⟩ | rfl <;> cases ho
     refine wm ((hb s.heap.objs.size).run _ (Bel s) G s₁ _ (rm.deeper hk rfl) ⟨F, Around.frames_deeper hF⟩ ⟨V, SV⟩) (fun fl s₂ hpt => ?_)
     obtain ⟨G₂, ⟨W, e, hv⟩, x₂⟩ := hpt
     subst e
     refine hR _ _ ⟨G₂, hv, x₀.trans ⟨x₂.sub, x₂.le, x₂.new, fun b o hb e h86 hf => x₂.keep b o hb e h86 ?_, x₂.fr, x₂.os, x₂.gens, x₂.tab, x₂.tk⟩⟩
     rw [hfs]
     intro q
     rcases List.mem_cons.mp q with rfl | q
     · obtain ⟨_, e⟩ := hb; exact Nat.lt_irrefl _ (Heap.lt_size e)
     · exact hf q
  refine wpAny_call (codeAny_call_function (by have := rm.depth; omega) (g.up _ _ ho) hd hco hgen hbody (D.code.keeps g.up) ?_)
  rw [D.closure]
  have g1 : GS c A.in1 G s := ⟨g.hb, g.sub, g.fs, g.t86, g.tab, g.tk⟩
  refine hbind A.in1 G s Vs _ _ g1 big hh fun Ws G' s' hh' xb => ?_
  have xb' : Step A (Bel s) G s G' s' := ⟨xb.sub, xb.le, xb.new, xb.keep, xb.fr, xb.os, xb.gens, xb.tab, xb.tk⟩
  exact key G' s' Ws _ (g.stepE xb' big) (xb'.big big) hh' fun V s'' ⟨G₂, hv, x₂⟩ => ⟨G₂, hv, xb'.then x₂⟩⟩

structure SXF (c : Ctx0) (d : Nat) (ns : List (Str × NK)) (env : Env) (Γ : List Slot) (st : Stmt) (o : Out) : Prop where
  run : ∀ (A : Around) (n₀ : Addr → Prop) (G : PH c.w) (s : Shared) (E : Value → Shared → Prop), Rm d A → (∃ F, A.frames = some (env :: F)) → St c ns env Γ A n₀ G s →
    wpAny c.M A (exec st env) (SP c ns env A n₀ G s o) E s
structure C1F (c : Ctx0) (d : Nat) (ns : List (Str × NK)) (env : Env) (st : Stmt) (F : SF Out) : Prop where
  run : ∀ Γ v, F Γ = some v → SXF c d ns env Γ st v
structure CSF (c : Ctx0) (d : Nat) (ns : List (Str × NK)) (env : Env) (st : List Stmt) (F : SF Out) : Prop where
  run : ∀ Γ v, F Γ = some v → SXsF c d ns env Γ st v
section
variable {c : Ctx0} {d : Nat} {ns : List (Str × NK)} {env : Env} {Γ : List Slot} {nm : List (Str × NameKind)}
theorem CSF.of {st F} (h : CS c d ns env st F) : CSF c d ns env st F := ⟨fun Γ v e => ⟨fun A n₀ G s E rm _ S => (h.run Γ v e).run A n₀ G s E rm S⟩⟩
theorem C1F.of {st F} (h : C1 c d ns env st F) : C1F c d ns env st F := ⟨fun Γ v e => ⟨fun A n₀ G s E rm _ S => (h.run Γ v e).run A n₀ G s E rm S⟩⟩
theorem CSF_cons {st sts F G} (h₁ : C1F c d ns env st F) (h₂ : CSF c d ns env sts G) : CSF c d ns env (st :: sts) (seqF F G) := ⟨fun Γ o hv => ⟨fun A n₀ G s E rm hf S => by
  obtain ⟨o₁, ho₁, hv⟩ := bind_some hv
  refine wpAny_execs_cons (wm ((h₁.run Γ o₁ ho₁).run A n₀ G s E rm hf S) (fun fl s₁ hpt => ?_))
  obtain ⟨G₁, ho, x₁⟩ := hpt
  cases o₁ with
  | next Γ' =>
    obtain ⟨e, S₁⟩ := ho; subst e
    exact wm ((h₂.run Γ' o hv).run A n₀ G₁ s₁ E rm hf S₁) (fun fl' s₂ ⟨G₂, ho₂, x₂⟩ => ⟨G₂, ho₂, x₁.trans x₂⟩)
  | brk Γ' =>
    cases hv
    obtain ⟨e, S₁⟩ := ho; subst e
    exact ⟨G₁, ⟨rfl, S₁⟩, x₁⟩
  | ret v =>
    cases hv
    obtain ⟨V, e, hh⟩ := ho; subst e
    exact ⟨G₁, ⟨V, rfl, hh⟩, x₁⟩⟩⟩
end
end

section
section
variable {c : Ctx0} {d : Nat} {ns : List (Str × NK)} {env : Env} {Γ : List Slot} {nm : List (Str × NameKind)}
theorem stored_nodup (kvs : List (Str × Value)) (k : Str) (v : Value) (nd : (kvs.map (·.1)).Nodup) : ((stored kvs k v).map (·.1)).Nodup := by
  unfold stored
  split
  · rw [List.map_map]
    have : (kvs.map ((fun x => x.1) ∘ fun kv => if kv.1 = k then (kv.1, v) else kv)) = kvs.map (·.1) := List.map_congr_left fun kv _ => by
      simp only [Function.comp]; split <;> rfl
    rw [this]; exact nd
  · rename_i h
    rw [List.map_append, List.nodup_append]
    refine ⟨nd, by simp, fun a ha b hb => ?_⟩
    simp only [List.map_cons, List.map_nil, List.mem_singleton] at hb
    subst hb
    intro e
    subst e
    obtain ⟨kv, h1, h2⟩ := List.mem_map.mp ha
    exact h (List.any_eq_true.mpr ⟨kv, h1, by simpa using h2⟩)
noncomputable def fkD (l : List Str) (es : List (Str × PV)) : List (Str × PV) := l.foldl (fun a k => putD a k .none) es
theorem fkD_holds {w : World} {G : PH w} : ∀ (l : List Str) {es : List (Str × PV)} {kvs : List (Str × Value)}, HoldsD G es kvs → (kvs.map (·.1)).Nodup → HoldsD G (fkD l es) (FK.keysIn l kvs) ∧ ((FK.keysIn l kvs).map (·.1)).Nodup
  | [], _, _, h, nd => ⟨h, nd⟩
  | k :: l, es, kvs, h, nd => by
    refine fkD_holds l (putD_holds (x := k) (v := .none) (Y := .none) h nd rfl) ?_
    exact stored_nodup kvs k .none nd
noncomputable def fromkeysP : PV → Option PV
  | .list xs => (strsP xs).bind fun ss => if ss.length ≤ 16777216 then some (.dict (fkD ss [])) else none
  | _ => none
theorem wpAny_Call_fromkeys {A : Around} {E : Value → Shared → Prop} {s : Shared} {o : PySem.Expr} {apos pos : Pos} {args : List PySem.Expr} {Q : Value → Shared → Prop}
    (hbase : attributeBase o "fromkeys" env (eval o env) = eval o env)
    (hfew : ((backTo pos (starEach args env)).all (fun x => !x.1) && (backToKw pos (keywordEach [] env)).all (fun x => x.1.isSome)
      && decide (args.length + ([] : List Keyword).length + (if ([] : List Keyword).isEmpty then 0 else 1) < 30)) = true)
    (hline : (apos.endLine == pos.line) = true)
    (h : wpAny c.M A (eval o env) (fun ov s₁ => ov = .type "dict" ∧ wpAny c.M A (callWith pos (.ref s₁.heap.objs.size) [] (backTo pos (starEach args env)) []) Q E { s₁ with heap := s₁.heap.push FK.bound, toks := s₁.toks + 1 }) E s) :
    wpAny c.M A (eval (.Call (.Attribute o "fromkeys" apos) args [] pos) env) Q E s := by
  rw [arm_eval_Call, hbase]
  refine wb h (fun ov s₁ ⟨e, hc⟩ => ?_)
  subst e
  refine wbs ?_
  have hform : methodCallForm (args.length + ([] : List Keyword).length) (backTo pos (starEach args env)) (backToKw pos (keywordEach [] env)) = true := hfew
  have hpos : methodCallPos true o env apos pos = pure pos := by unfold methodCallPos; simp [hline]
  unfold methodCall
  rw [hform]
  refine wbh (FK.getm ?_)
  exact wbe hpos hc
theorem CE_fromkeys (C : Cok c) (K : EnvK ns nm env) {o arg : PySem.Expr} {np apos pos : Pos} {F} (ho : o = .Name "dict" np) (hk : nm.lookup ("dict" : Str) = some .globalImplicit) (gv : GV c "dict" (.type "dict")) (h : CE c d ns env arg F)
    (hbase : attributeBase o "fromkeys" env (eval o env) = eval o env) (hline : (apos.endLine == pos.line) = true)
    (hs : starEach [arg] env = (false, eval arg env) :: starEach [] env)
    (hfew : ((backTo pos (starEach [arg] env)).all (fun x => !x.1) && (backToKw pos (keywordEach [] env)).all (fun x => x.1.isSome)
      && decide (([arg] : List PySem.Expr).length + ([] : List Keyword).length + (if ([] : List Keyword).isEmpty then 0 else 1) < 30)) = true) :
    CE c d ns env (.Call (.Attribute o "fromkeys" apos) [arg] [] pos) (fun Γ => (F Γ).bind fromkeysP) := ⟨fun Γ v hv => by
  obtain ⟨a, ha, hv⟩ := bind_some hv
  unfold fromkeysP at hv
  split at hv
  case h_2 => cases hv
  rename_i xs
  obtain ⟨ss, hss, hv⟩ := bind_some hv
  split at hv
  case isFalse => cases hv
  rename_i hlen
  cases hv
  have e := strsP_eq hss
  subst e
  refine ⟨fun A n₀ G s E rm S => wpAny_Call_fromkeys hbase hfew hline ?_⟩
  subst ho
  refine wm ((EX_glob (d := d) (Γ := Γ) C K.ok (kind_glob K hk) gv (by decide)).run A n₀ G s E rm S) (fun V₁ s₁ hpt => ?_)
  obtain ⟨G₁, e₁, x₁⟩ := hpt
  obtain rfl : V₁ = .type "dict" := e₁
  have S₁ := S.step x₁
  have g₁ := S₁.gs
  refine ⟨rfl, ?_⟩
  have xb := Step.push g₁ FK.bound rfl (s₁.toks + 1) (Nat.le_succ _)
  have Sb := S₁.step xb
  generalize hb : s₁.heap.objs.size = b at xb Sb
  refine FK.callWith_fields (by rw [hs]; rfl) (evalArgs_all (by rw [hs]; rfl) (PyProof.Rows.args_cons (wm ((h.run Γ _ ha).run A n₀ _ _ E rm Sb) (fun V₂ s₂ hpt => ?_)) hs))
  obtain ⟨G₂, hh₂, x₂⟩ := hpt
  obtain ⟨l, vs, n, rfl, gl, hv⟩ := hh₂
  have S₂ := Sb.step x₂
  have g₂ := S₂.gs
  have hbnd : s₂.heap.get? b = some FK.bound := g₂.sub _ _ (x₂.le _ _ pin_self)
  refine wpAny_items_nil ⟨hbnd, ?_⟩
  have hlv : vs.length = ss.length := by simpa using hv.length
  refine wpAny_mono (wpAny_toks (FK.call_fk (w := c.w) (l := ss) (items := vs.toArray) (Q := fun v s' => ∃ h' tk, v = .ref s₂.heap.objs.size ∧ s' = { s₂ with heap := h', toks := tk } ∧ h'.DictOf (PySem.strKind Pw c.w) s₂.heap.objs.size (FK.keysIn ss []) ∧ (∀ b o, s₂.heap.get? b = some o → h'.get? b = some o))
    rm.handled S₂.big hbnd ⟨_, g₂.sub _ _ gl, rfl, n, rfl⟩ (by simpa using hlv) (fun j k e => ?_) (kdl_size hlen) fun h' tk _ hd hk => ⟨h', tk, rfl, rfl, hd, hk⟩))
    (fun v s' ⟨htk, h', tk, e1, e2, hd, hk⟩ => ?_) fun _ _ e => e.2
  · obtain ⟨V, hV, t, rfl⟩ := hv.get j (v := .str k) (by rw [List.getElem?_map, e]; rfl)
    exact ⟨t, by simpa using hV⟩
  · subst e1 e2
    obtain ⟨o, es, ep, w1, w2, w3, w4, w5, w6⟩ := hd
    have st := Step.fresh (n₁ := Bel s₂) g₂ (h' := h') (tk := tk) htk hk
    have big : 86 < s₂.heap.objs.size := S₂.big
    refine ⟨_, ⟨_, o, _, rfl, pin_self, ⟨big, es, ep, w2, w3, w4, w5, w6⟩, ?_⟩, ((x₁.then xb).then x₂).then (st.pinL w1 (none_size g₂) fresh_size)⟩
    exact (fkD_holds ss (G := pin G₂ s₂.heap.objs.size o) (es := []) (kvs := []) rfl List.nodup_nil).1⟩
end
end

section
section
variable {c : Ctx0} {d : Nat} {ns : List (Str × NK)} {env : Env} {Γ : List Slot} {nm : List (Str × NameKind)}
noncomputable def enumArgs2 : List PV → Option (List PV)
  | [.dict es] => some (enumL 0 (es.map fun e => .str e.1))
  | l => enumArgs l
set_option tactic.hygienic true in
theorem CI_enum2 (C : Cok c) (K : EnvK ns nm env) {x : Str} {np pos : Pos} {args : List PySem.Expr} {F : SF (List PV)} (hk : nm.lookup x = some .globalImplicit) (gv : GV c x (.type "enumerate")) (h₂ : CL c d ns env args F)
    (hd : (x == ("__debug__" : Str)) = false)
    (he : eval (.Call (.Name x np) args [] pos) env = (do callWith pos (← eval (.Name x np) env) [] (backTo pos (starEach args env)) (backToKw pos (keywordEach [] env))))
    (hp : ∀ pos env, (backTo pos (starEach args env)).any (·.1) = false) : CI2 c d ns env (.Call (.Name x np) args [] pos) (fun Γ => (F Γ).bind enumArgs2) := ⟨fun Γ xs hv => by
  obtain ⟨vs, hvs, hx⟩ := bind_some hv
  unfold enumArgs2 at hx
  split at hx
  case h_2 => exact (CI_enum C K hk gv h₂ hd he hp).run Γ xs (by rw [hvs]; exact hx)
  rename_i ys
  cases hx
  refine ⟨fun A n₀ G s E rm S => ?_⟩
  refine call_core C K hk gv (.type "enumerate") (h₂.run Γ _ hvs) hd he hp rm S fun Vs s₂ G₂ hh x₂ S₂ => ?_
  obtain ⟨_, _, rfl, ⟨a, o, kvs, rfl, ga, ⟨h86, hdo⟩, hl⟩, rfl⟩ := hh
  have g := S₂.gs
  have ha := g.sub _ _ ga
  obtain ⟨ep, L⟩ := hdo.at_ ha
  have nsys : (a == sysModules) = false := sys_ne h86
  refine call_enum_dict nsys L fun h' he' hi' hsz hk' => ?_
  have hsz' : s₂.heap.objs.size + 1 ≠ s₂.heap.objs.size := Nat.succ_ne_self _
  have alt := Heap.lt_size ha
  have st := Step.fresh (n₁ := Bel s₂) g (tk := s₂.toks) (Nat.le_refl _) hk'
  have W := (WalksT.enumerateD (prog := Pw) (w := c.w) (drawsKeys (knd := PySem.strKind Pw c.w) (A := A.in1) rm.handled s₂.heap.objs.size a (Nat.ne_of_lt alt) kvs ep) (s₂.heap.objs.size + 1) hsz' (by
    simp only [List.mem_cons, List.not_mem_nil, or_false]
    rintro (q | q)
    · exact hsz' q
    · rw [← q] at alt; exact absurd alt (Nat.not_lt.mpr (Nat.le_succ _))) (by simp)).toU
  have len : kvs.length = (enumL 0 (ys.map fun e => PV.str e.1)).length := by rw [enumL_length, List.length_map, hl.length]
  have lenL : kvs.length = kvs.length := rfl
  rw [len] at W
  refine wpAny_pyIter_enum he' ?_
  have nn : ∀ b, s₂.heap.objs.size ≤ b → ¬ Bel s b ∧ G₂ b = none := fun b hb => ⟨fun q => by obtain ⟨o, e⟩ := x₂.alive q; exact Nat.lt_irrefl _ (Nat.lt_of_lt_of_le (Heap.lt_size e) hb), by
    cases e : G₂ b with
    | none => rfl
    | some o => exact absurd (Heap.lt_size (g.sub _ _ e)) (Nat.not_lt.mpr hb)⟩
  refine ⟨G₂, _, [s₂.heap.objs.size + 1, s₂.heap.objs.size], _, rfl, ⟨⟨_, _, _, _, W, ?_, fun b hb => by simpa using hb, fun b hb => ?_⟩, ?_⟩, ⟨⟨_, he'⟩, len ▸ hi', L.at' fun o e => hk' _ _ e⟩, ?_, W.self, x₂.then st⟩
  · rintro i vals y ⟨t, z, ⟨k, u, e1, e2⟩, rfl⟩ hy
    obtain ⟨p, e3, e4⟩ := enumL_get 0 _ i y hy
    rw [Nat.zero_add] at e4
    refine ⟨_, _, _, _, rfl, e4, ⟨t, rfl⟩, ?_⟩
    have e5 : (kvs.map (·.1))[i]? = some k := by rw [List.getElem?_map, e1]; rfl
    rw [hl.keys, List.getElem?_map] at e5
    rw [List.getElem?_map] at e3
    cases e6 : ys[i]? with
    | none => rw [e6] at e5; cases e5
    | some q =>
      rw [e6] at e5 e3
      cases e5; cases e3
      exact str_is e2
  · simp only [List.mem_cons, List.not_mem_nil, or_false] at hb
    rcases hb with rfl | rfl | rfl
    · exact .inl (by simp)
    · exact .inl (by simp)
    · exact .inr ⟨_, ga⟩
  · rintro i h ⟨⟨old, h1⟩, h2, _⟩ b hb
    simp only [List.mem_cons, List.not_mem_nil, or_false] at hb
    rcases hb with rfl | rfl
    · exact ⟨_, h1⟩
    · obtain ⟨o, ho, _⟩ := h2; exact ⟨o, ho⟩
  · intro b hb
    simp only [List.mem_cons, List.not_mem_nil, or_false] at hb
    rcases hb with rfl | rfl
    · exact nn _ (Nat.le_succ _)
    · exact nn _ (Nat.le_refl _)⟩

set_option tactic.hygienic true in
theorem C1_list_own (C : Cok c) (K : EnvK ns nm env) {x : Str} {np lp pos cpos : Pos} {e : PySem.Expr} {F} {i : Nat} {k : NK} (hi : findN ns x 0 = some (i, k)) (hk : (k != .cap) = true) (hkl : nm.lookup ("list" : Str) = some .globalImplicit) (gv : GV c "list" (.type "list"))
    (h : CE c d ns env e F) (hs : swapsWith (.Call (.Name "list" lp) [e] [] cpos) (some (.Name x np)) pos.line env = pure false)
    (he : eval (.Call (.Name "list" lp) [e] [] cpos) env = (do callWith cpos (← eval (.Name "list" lp) env) [] (backTo cpos (starEach [e] env)) (backToKw cpos (keywordEach [] env))))
    (hse : ∀ env, starEach [e] env = (false, eval e env) :: starEach [] env) :
    C1 c d ns env (.Assign [.Name x np] (.Call (.Name "list" lp) [e] [] cpos) pos) (fun Γ => (F Γ).bind fun v => match v with
      | .list xs => if xs.length ≤ sizeLine then some (.next ((clr i Γ).set i (.own xs))) else none
      | _ => none) := ⟨fun Γ o hv => by
  obtain ⟨v, hvv, hv⟩ := bind_some hv
  split at hv
  case h_2 => cases hv
  rename_i xs
  split at hv
  case isFalse => cases hv
  rename_i hlen
  cases hv
  refine ⟨fun A n₀ G s E rm S => ?_⟩
  rw [exec_Assign_Name _ _ _ _ _ hs]
  refine wbs (wpAny_bind ?_)
  refine call_core C K hkl gv (.type "list") (EXL_cons (h.run Γ _ hvv) EXL_nil hse) (by decide) he (fun pos env => by rw [hse]; rfl) rm S fun Vs s₂ G₂ hh x₂ S₂ => ?_
  obtain ⟨_, _, rfl, ⟨a, vs, n, rfl, ga, hl⟩, rfl⟩ := hh
  have g := S₂.gs
  refine call_list_seq a (.inl rfl) (g.sub _ _ ga) rfl rfl (fun h' c' hk' ho => ?_) (by simpa [hl.length] using hlen)
  refine wbs (wpAny_bind (wpAny_bindName ?_))
  have st := Step.fresh (n₁ := n₀) g (tk := s₂.toks) (Nat.le_refl _) hk'
  obtain ⟨V, SV⟩ := S₂
  have S₃ := SV.fresh (tk := s₂.toks) (Nat.le_refl _) hk'
  have nb : ¬ Bel s₂ s₂.heap.objs.size := fresh_size
  have Ga : G₂ s₂.heap.objs.size = none := none_size g
  have hL : s₂.heap.objs.size ≠ env.locals := fun q => by
    obtain ⟨m, hn, _⟩ := SV.loc; obtain ⟨o', e, _⟩ := ns_obj0 hn; exact nb (q ▸ ⟨o', e⟩)
  have hF : s₂.heap.objs.size ∉ FS A := fun q => nb (FS_lt g q)
  have hna : ¬ n₀ s₂.heap.objs.size := fun q => nb (SV.bel _ q)
  refine store_ref K.ok (findN_get hi) (by simpa using hk) S₃ (sl := .own xs) ho (fun v h => nomatch h) hL (fun l y hy hoy e => ?_) (fun h'' V' e => ⟨_, vs, c', rfl, Ga, hL, hF, hna, e, hl⟩) fun s₄ x₄ S₄ => ?_
  · have z := SV.slot l _ hy
    cases y with
    | own xs => obtain ⟨b, vs, n, e', g, _, _, _, hg, _⟩ := z; rw [e] at e'; cases e'; exact nb ⟨_, hg⟩
    | odict es => obtain ⟨b, o', kvs, e', g, _, _, _, hg, _⟩ := z; rw [e] at e'; cases e'; exact nb ⟨_, hg⟩
    | _ => cases hoy
  · exact wpAny_pure ⟨G₂, ⟨rfl, S₄⟩, ((x₂.up (St.n0 S)).trans st).trans x₄⟩⟩
end
end

section
section
variable {M : Model} {A : Around} {E : Value → Shared → Prop} {s : Shared}
theorem setFlight_any {base : Heap} {l : List Env} {e : Addr} {cls a0 fl : Value} {Q : Unit → Shared → Prop} (f : Option Addr)
    (hkb : base.StaysIn s.heap) (hl : s.heap.FunFrames base l) (ht : s.heap.TracedAtW base e cls a0 fl)
    (h : ∀ h', base.StaysIn h' → h'.FunFrames base l → h'.TracedAtW base e cls a0 (f.elim Value.none fun f => rawInt f) → (∀ b o, s.heap.get? b = some o → (∀ vs, o.data ≠ .fields vs) → h'.get? b = some o) → Q () { s with heap := h' }) :
    wpAny M A (setFlight (.ref e) f) Q E s := by
  obtain ⟨oe, vs, T, oT, ts, he, hcls, hd, h1, hnT, hTe, hT, hdT, h3⟩ := ht
  have hsz3 : 3 < ts.size := (Array.getElem?_eq_some_iff.mp h3).1
  have other : ∀ b, b ≠ T → (s.heap.update T (Obj.mapFields (·.setIfInBounds 3 (f.elim Value.none fun f => rawInt f)))).get? b = s.heap.get? b :=
    fun b hb => Heap.get?_update_other _ _ (Ne.symm hb)
  have noRecord : ∀ b o, s.heap.get? b = some o → (∀ vs, o.data ≠ .fields vs) → b ≠ T := fun b o hb hnf q => by
    rw [q, hT] at hb; injection hb with hb; subst hb; exact hnf ts hdT
  unfold setFlight
  refine wpAny_bind (wpAny_field he hd h1 ?_)
  rw [if_pos (show (Value.ref T != Value.none) = true from by simp)]
  refine wpAny_setField hT hdT hsz3 (h _ (fun b o hbo => (other b fun q => by rw [q, hnT] at hbo; cases hbo).trans (hkb b o hbo))
    (hl.of_keeps fun b o hb hnf => ⟨o, (other b (noRecord b o hb hnf)).trans hb, rfl⟩) ?_ fun b o hb hnf => (other b (noRecord b o hb hnf)).trans hb)
  exact ⟨oe, vs, T, _, _, (other e (Ne.symm hTe)).trans he, hcls, hd, h1, hnT, hTe, Heap.get?_update_self _ hT (Obj.isFreed_of_fields (Obj.data_mapFields hdT _)), Obj.data_mapFields hdT _, by simp [hsz3]⟩
theorem noteFrame_fresh {base : Heap} {env : Env} {outer : List Env} {L e : Addr} {oe : Obj} {vs : Array Value} {a0 : Value} {Q : Unit → Shared → Prop}
    (hfr : A.frames = some (env :: outer)) (hl : s.heap.FunFrames base (env :: outer)) (hf : env.frame = some L)
    (he : s.heap.get? e = some oe) (hkb : base.StaysIn s.heap) (hen : base.get? e = none) (hd : oe.data = .fields vs) (h1 : vs[1]? = some .none) (h0 : vs[0]? = some a0)
    (h : ∀ h', Heap.NotedW base (env :: outer) e oe.cls a0 (rawInt L) s.heap h' → Q () { s with heap := h' }) : wpAny M A (noteFrame (.ref e) env) Q E s := by
  unfold noteFrame
  simp only [hf]
  refine wpAny_bind (wpAny_field he hd h1 ?_)
  rw [if_neg (by decide)]
  exact wpAny_entryW hfr hl hf he hkb hen hd (Array.getElem?_eq_some_iff.mp h1).1 h0 h
end
section
variable {c : Ctx0} {d : Nat} {ns : List (Str × NK)} {env : Env} {Γ : List Slot} {nm : List (Str × NameKind)}
theorem sub_ve_base : isSubtype (.type "ValueError") (.type "BaseException") = pure true := by rw [isSubtype_type]; kernel_rfl
theorem sub_ve_meta : isSubtype (.type ((Manifest.find? "ValueError").elim "type" fun x => x.metatype)) (.type "tuple") = pure false := by rw [isSubtype_type]; kernel_rfl
theorem sub_ve_self : isSubtype (.type "ValueError") (.type "ValueError") = pure true := by rw [isSubtype_type]; kernel_rfl
theorem caught (C : Cok c) (K : EnvK ns nm env) (hk : nm.lookup ("ValueError" : Str) = some .globalImplicit) (gv : GV c "ValueError" (.type "ValueError")) {A : Around} (rm : Rm d A) {F : List Env} (hA : A.frames = some (env :: F)) {n₀ : Addr → Prop} {G : PH c.w} {s : Shared} (g : GS c A G s)
    {h' : Heap} {tk : Tok} {e : Addr} (X : Heap.NewExc s.heap h' e "ValueError") (htk : s.toks ≤ tk) {vp rp hp p : Pos} {k : Nat} {Q : Flow → Shared → Prop} {E : Value → Shared → Prop} (hQ : ∀ s'', Step A n₀ G s G s'' → Q (.ret (.bool false)) s'') :
    notedBy c.M A env (cameBackBy c.M A env (fun e s₁ => wpAny c.M A (noteFrame e env) (fun _ s₂ => wpAny c.M A (setFlight e none) (fun _ s₃ =>
      wpAny c.M A (handleBy e env [.ExceptHandler (some (.Name "ValueError" vp)) none [.Return (some (.Constant (.bool false) k p)) rp] hp]) Q E s₃) E s₂) E s₁)) (.ref e) { s with heap := h', toks := tk } := by
  obtain ⟨ob, t, he, hc, hd⟩ := X.there
  let base := hideAll s.heap (FS A)
  obtain ⟨F', hF', hall⟩ := rm.frames
  rw [hA] at hF'; cases hF'
  have hstay : base.StaysIn h' := fun b o e => X.keeps b o (of_hideAll _ e)
  have hen : base.get? e = none := by
    cases q : base.get? e with
    | none => rfl
    | some o => have := of_hideAll _ q; rw [X.new] at this; cases this
  obtain ⟨L, hL⟩ := Option.isSome_iff_exists.mp (hall env List.mem_cons_self).2
  have hff : h'.FunFrames base (env :: F) := by
    have key : ∀ l : List Env, (∀ x ∈ l, x ∈ env :: F) → h'.FunFrames base l := by
      intro l
      induction l with
      | nil => intro _; trivial
      | cons x l ih =>
        intro hl
        have hx := hl x List.mem_cons_self
        obtain ⟨hk, hf⟩ := hall x hx
        obtain ⟨L', hL'⟩ := Option.isSome_iff_exists.mp hf
        have hm : L' ∈ FS A := by
          unfold FS
          rw [hA]
          exact List.mem_filterMap.mpr ⟨x, hx, hL'⟩
        obtain ⟨_, o, ho, hnf⟩ := g.fs L' hm
        exact ⟨by rw [hk]; decide, ⟨L', o, hL', hideAll_none _ hm, X.keeps _ _ ho, hnf⟩, ih fun y hy => hl y (List.mem_cons_of_mem _ hy)⟩
    exact key _ fun _ h => h
  unfold notedBy
  refine noteFrame_fresh hA hff hL he hstay hen hd rfl rfl fun h₁ ⟨k1, k2, k3, k4⟩ => ?_
  obtain ⟨T, tb⟩ : ∃ T, ∃ oe vs, h₁.get? e = some oe ∧ oe.data = .fields vs ∧ vs[1]? = some (.ref T) := by
    obtain ⟨oe, vs, T, oT, ts, q1, q2, q3, q4, _⟩ := k3
    exact ⟨T, oe, vs, q1, q3, q4⟩
  obtain ⟨oe, vs, q1, q2, q3⟩ := tb
  unfold cameBackBy
  refine wpAny_bind (wpAny_field q1 q2 q3 ?_)
  rw [if_neg (show ¬ ((Value.ref T == Value.none) = true) from by simp)]
  rw [hL]
  refine setFlight_any (some L) k1 k2 k3 fun h₂ j1 j2 j3 j4 => ?_
  refine wpAny_noteFrame_againW hL j3 ?_
  refine setFlight_any none j1 j2 j3 fun h₃ i1 i2 i3 i4 => ?_
  refine wpAny_handleBy_builtin (X := "ValueError") (T := "ValueError") (b := true) sub_ve_base sub_ve_meta sub_ve_self ?_
  have upG : ∀ {h : Heap}, base.StaysIn h → ∀ b o, G b = some o → h.get? b = some o := fun hs b o e => hs b o (hideAll_get _ (g.sub b o e) fun q => by rw [(g.fs b q).1] at e; cases e)
  have hce : ob.cls = .type "ValueError" := hc
  have fin : ∀ s'' : Shared, s'' = { s with heap := h₃, toks := tk } → (∀ Q : Value → Shared → Prop, ∀ E, Q (.type "ValueError") s'' → wpAny c.M (A.mark (some (.ref e))) (eval (.Name "ValueError" vp) env) Q E s'') := fun s'' es Q E hq => by
    subst es
    have up : ∀ b o, c.hb.get? b = some o → h₃.get? b = some o := fun b o e => upG i1 b o (g.hb b o e)
    refine Calls.Name_function_global K.ok.fn (kind_glob K hk) ?_ (by decide)
    rcases gv with hv | ⟨h1, h2⟩
    · exact Calls.loadGlobal_global (K.ok.globals ▸ C.g.keeps up) hv hq
    · exact Calls.loadGlobal_builtin (K.ok.globals ▸ C.g.keeps up) h1 (K.ok.builtins ▸ C.b.keeps up) h2 hq
  refine fin _ rfl _ _ ⟨rfl, (let ⟨ob', w1, w2⟩ := i3.there; ⟨ob', w1, w2.trans hce⟩), ?_⟩
  simp only [if_true]
  refine setFlight_any none i1 i2 i3 fun h₄ l1 l2 l3 l4 => ?_
  refine wpAny_execs_cons (wpAny_Return_some (wpAny_Constant_bool ?_))
  refine hQ _ ?_
  have hfr : ∀ b o, s.heap.get? b = some o → (∀ vs, o.data ≠ .fields vs) → ∃ sl, h₄.get? b = some { o with slots := sl } := fun b o e hnf => by
    obtain ⟨sl, w⟩ := k4 b o (X.keeps b o e) hnf
    exact ⟨sl, l4 _ _ (i4 _ _ (j4 _ _ w hnf) hnf) hnf⟩
  have h86 : 86 ∉ FS A := fun q => by
    obtain ⟨_, o, e1, e2⟩ := g.fs _ q
    obtain ⟨ps, e3, _⟩ := g.tab
    rw [e1] at e3; cases e3
    exact e2 _ rfl
  refine ⟨upG l1, fun _ _ e => e, fun _ h1 h2 => absurd h1 h2, fun b o _ e _ hf => l1 b o (hideAll_get _ e hf), fun b o _ e _ => ?_, rfl, id, ?_, htk⟩
  · by_cases hf : b ∈ FS A
    · obtain ⟨_, o', e1, e2⟩ := g.fs b hf
      rw [e] at e1; cases e1
      exact hfr b o e e2
    · exact ⟨o.slots, l1 b o (hideAll_get _ e hf)⟩
  · obtain ⟨ps, e1, e2⟩ := g.tab
    exact ⟨ps, l1 _ _ (hideAll_get _ e1 h86), e2⟩
end
end

section
section
variable {c : Ctx0} {d : Nat} {ns : List (Str × NK)} {env : Env} {Γ : List Slot} {nm : List (Str × NameKind)}
theorem HoldsL.eraseIdx {w : World} {G : PH w} : ∀ {xs : List PV} {vs : List Value} (j : Nat), HoldsL G xs vs → HoldsL G (xs.eraseIdx j) (vs.eraseIdx j)
  | [], vs, j, h => by rw [show vs = [] from h]; exact rfl
  | x :: xs, vs, j, h => by
    obtain ⟨v, r, rfl, h1, h2⟩ := h
    cases j with
    | zero => exact h2
    | succ j => exact ⟨v, r.eraseIdx j, rfl, h1, h2.eraseIdx j⟩
theorem StV.un {A n₀ G s V} (S : StV c ns env Γ A n₀ G s V) (j : Nat) : StV c ns env (Γ.set j .un) A n₀ G s V := by
  refine ⟨S.gs, S.base, S.bel, S.fsl, S.loc, S.lL, S.cel, fun i sl hi => ?_, fun i k x y hik hx hy ox oy => ?_⟩
  · rw [List.getElem?_set] at hi
    split at hi
    · split at hi
      · cases hi; trivial
      · cases hi
    · exact S.slot i sl hi
  · rw [List.getElem?_set] at hx hy
    split at hx
    · split at hx
      · cases hx; cases ox
      · cases hx
    · split at hy
      · split at hy
        · cases hy; cases oy
        · cases hy
      · exact S.apart i k x y hik hx hy ox oy
theorem map_erase (f : Str → PV) : ∀ (l : List Str) (j : Nat), (l.eraseIdx j).map f = (l.map f).eraseIdx j
  | [], _ => rfl
  | _ :: _, 0 => rfl
  | x :: l, j + 1 => by simp [map_erase f l j]
noncomputable def isK (k : Str) : Value → Bool
  | .str a _ => a == k
  | _ => false
theorem rem_stmt (C : Cok c) (K : EnvK ns nm env) {t el : Str} {tp ap ep cp xp : Pos} {it je : Nat} {kt ke : NK} (hit : findN ns t 0 = some (it, kt)) (hje : findN ns el 0 = some (je, ke))
    (hline : (ap.endLine == cp.line) = true) (hint : interactive env = false) (hsw : swapsWith (.Call (.Attribute (.Name t tp) "remove" ap) [.Name el ep] [] cp) none xp.line env = pure false)
    (hbase : attributeBase (.Name t tp) "remove" env (eval (.Name t tp) env) = eval (.Name t tp) env)
    {A : Around} {n₀ : Addr → Prop} {G : PH c.w} {s : Shared} {ts : List Str} {k : Str} (hh : A.handled = none) (S : St c ns env Γ A n₀ G s) (ht : Γ[it]? = some (.own (ts.map .str))) (he : Γ[je]? = some (.val (.str k))) (hlen : ts.length ≤ sizeLine) :
    wpAny c.M A (execs [.Expr (.Call (.Attribute (.Name t tp) "remove" ap) [.Name el ep] [] cp) xp] env)
      (fun f s' => f = .next ∧ k ∈ ts ∧ St c ns env (Γ.set it (.own ((ts.erase k).map .str))) A n₀ G s' ∧ Step A n₀ G s G s')
      (fun x s' => ∃ h' tk a, x = .ref a ∧ s' = { s with heap := h', toks := tk } ∧ Heap.NewExc s.heap h' a "ValueError" ∧ s.toks ≤ tk ∧ k ∉ ts) s := by
  obtain ⟨V, SV⟩ := S
  obtain ⟨a, vs, n, hy, g1, g2, g3, g4, g5, g6⟩ := SV.slot it _ ht
  obtain ⟨y, hy2, tk, rfl⟩ := SV.slot je _ he
  have hS := strs_are g6
  have hvl : vs.length = ts.length := by simpa using g6.length
  have heq : ∀ y, y ∈ vs.toArray → MeetsSeq.EqGives y (.str k tk) (isK k y) := fun y hy => by
    obtain ⟨x, u, rfl⟩ := hS.all y (by simpa using hy)
    exact eqGives_str x k u tk
  have hget : ∀ (m : Nat) (hm : m < vs.toArray.size), isK k vs.toArray[m] = decide (ts[m]? = some k) := fun m hm => by
    have hm' : m < vs.length := by simpa using hm
    obtain ⟨x, u, e⟩ := hS.all vs[m] (List.getElem_mem hm')
    have e2 : ts[m]? = some x := by
      have := congrArg (fun l => l[m]?) hS.strs
      rw [← this, List.getElem?_map, List.getElem?_eq_getElem hm', e]
      rfl
    rw [e2]
    show isK k vs[m] = _
    rw [e]
    show (x == k) = decide (some x = some k)
    rw [Bool.eq_iff_iff]
    simp
  refine wpAny_execs_cons (wm (Q := fun f s' => f = .next ∧ k ∈ ts ∧ St c ns env (Γ.set it (.own ((ts.erase k).map .str))) A n₀ G s' ∧ Step A n₀ G s G s') ?_ (fun f s' h => by obtain ⟨rfl, h⟩ := h; exact wpAny_execs_nil ⟨rfl, h⟩))
  refine wpAny_Expr ?_ hint hsw
  refine wpAny_Call_method_lateS hbase (by rfl) hline (wpAny_Name (loadVar K.ok (findN_get hit) SV hy ?_) (K.ok.dbg it t kt (findN_get hit)))
  have hT : s.TypeIs (.ref a) "list" := ⟨_, g5, rfl⟩
  refine ⟨"list", "list.remove", PySem.F.plainAttrs_list, PySem.F.slot_list_remove, PySem.F.type_list_remove, hT, (fun b e => by cases e; exact ⟨_, g5, rfl⟩), ?_⟩
  refine Calls.callWith_builtin (by rfl) (evalArgs_all (by rfl) ?_)
  refine PyProof.Rows.args_cons (wpAny_Name (loadVar K.ok (findN_get hje) SV hy2 ?_) (K.ok.dbg je el ke (findN_get hje))) (by rfl)
  refine wpAny_items_nil ?_
  by_cases hk : k ∈ ts
  · have hj : ts.idxOf k < ts.length := List.idxOf_lt_length_of_mem hk
    have hj' : ts.idxOf k < vs.toArray.size := by simpa [hvl] using hj
    have e1 : ts[ts.idxOf k]? = some k := by rw [List.getElem?_eq_getElem hj, List.getElem_idxOf hj]
    refine call_meets PySem.F.slot_list_remove hT PySem.F.entry_list_remove (PySem.F.args_list_remove_2 _ _)
      (MeetsSeq.list_remove a vs.toArray n (.str k tk) (isK k) heq (ts.idxOf k) hj' (by rw [hget _ hj', e1]; simp) (fun m hm hlt => ?_) (by simpa [hvl] using hlen)) ⟨g5, ?_⟩
    · rw [hget m hm]
      simp only [decide_eq_false_iff_not]
      intro e
      have hm' : m < ts.length := by rw [← hvl]; simpa using hm
      rw [List.getElem?_eq_getElem hm'] at e
      have := List.not_of_lt_findIdx (p := (· == k)) (xs := ts) hlt
      simp only [Option.some.injEq] at e
      simp [e] at this
    · show wants _ _ _ _
      have hx : (ts.erase k) = ts.eraseIdx (ts.idxOf k) := by rw [List.erase_eq_eraseIdx_of_idxOf rfl]
      have hd : (lobj vs n).data = .seq vs.toArray n := rfl
      obtain ⟨n', hd'⟩ := Obj.data_mapSeq hd (fun xs => xs.eraseIdxIfInBounds (ts.idxOf k))
      have eu : (s.heap.update a (Obj.mapSeq fun xs => xs.eraseIdxIfInBounds (ts.idxOf k))).get? a = some (lobj (vs.eraseIdx (ts.idxOf k)) n') := by
        have := Heap.get?_update_self (Obj.mapSeq fun xs => xs.eraseIdxIfInBounds (ts.idxOf k)) g5 (Obj.isFreed_of_seq hd')
        rw [this]
        have e4 : (vs.toArray.eraseIdxIfInBounds (ts.idxOf k)) = (vs.eraseIdx (ts.idxOf k)).toArray := by
          apply Array.toList_inj.mp
          simp
        have e5 := hd'
        rw [e4] at e5
        have e6 : Obj.mapSeq (fun xs => xs.eraseIdxIfInBounds (ts.idxOf k)) (lobj vs n) = { cls := .type "list", data := (Obj.mapSeq (fun xs => xs.eraseIdxIfInBounds (ts.idxOf k)) (lobj vs n)).data } := rfl
        rw [e6, e5]
      have R := SV.obj_set (sl := .own (ts.map .str)) (sl' := .own ((ts.erase k).map .str)) (tk := s.toks) (o' := lobj (vs.eraseIdx (ts.idxOf k)) n') ht rfl hy g1 g2 g4 g5 ⟨fun _ h => (by cases h), fun _ h => (by cases h)⟩ (Heap.SameBut.update ..) eu (fun _ h => by cases h) (Nat.le_refl _) rfl
        ⟨a, vs.eraseIdx (ts.idxOf k), n', rfl, g1, g2, g3, g4, eu, by rw [hx, map_erase]; exact g6.eraseIdx _⟩
      exact ⟨rfl, hk, ⟨V, R.1⟩, R.2⟩
  · refine wpAny_mono (wpAny_toks (call_meets (Q := fun _ _ => False) (E := fun x s' => ∃ h' tk a, x = .ref a ∧ s' = { s with heap := h', toks := tk } ∧ Heap.NewExc s.heap h' a "ValueError") PySem.F.slot_list_remove hT PySem.F.entry_list_remove (PySem.F.args_list_remove_2 _ _)
      (MeetsSeq.list_remove_none a vs.toArray n (.str k tk) (isK k) heq fun m hm => ?_) ⟨g5, hh, fun h' tk e X => ⟨h', tk, e, rfl, rfl, X⟩⟩)) (fun _ _ h => h.2.elim) fun x s' ⟨htk, h', tk, a, e1, e2, X⟩ => ?_
    · rw [hget m hm]
      simp only [decide_eq_false_iff_not]
      intro e
      exact hk (List.mem_of_getElem? e)
    · subst e1 e2
      exact ⟨h', tk, a, rfl, rfl, X, htk, hk⟩
noncomputable def remAll : List Str → List Str → Option (List Str)
  | ts, [] => some ts
  | ts, e :: es => if e ∈ ts then remAll (ts.erase e) es else none
noncomputable def noMeth (Γ : List Slot) : Bool := Γ.all fun | .meth .. => false | _ => true
theorem clr_noMeth {j : Nat} {Γ : List Slot} (h : noMeth Γ = true) : clr j Γ = Γ := by
  unfold clr
  conv => rhs; rw [← List.map_id Γ]
  refine List.map_congr_left fun x hx => ?_
  have := List.all_eq_true.mp h x hx
  cases x with
  | meth => cases this
  | _ => rfl
theorem noMeth_set {i : Nat} {Γ : List Slot} {sl : Slot} (h : noMeth Γ = true) (hs : ∀ id j, sl ≠ .meth id j) : noMeth (Γ.set i sl) = true := by
  unfold noMeth at *
  rw [List.all_eq_true] at *
  intro x hx
  rcases List.mem_or_eq_of_mem_set hx with q | rfl
  · exact h x q
  · cases x with
    | meth id j => exact absurd rfl (hs id j)
    | _ => rfl
noncomputable def tryremF (ix it je : Nat) : SF Out := fun Γ => match Γ[ix]?, Γ[it]? with
  | some (.val (.list xs)), some (.own us) => (strsP xs).bind fun es => (strsP us).bind fun ts => if noMeth Γ = true ∧ it ≠ je ∧ ts.length ≤ sizeLine ∧ je < Γ.length then match remAll ts es with
    | some ts' => some (.next ((Γ.set je .un).set it (.own (ts'.map .str))))
    | none => some (.ret (.bool false))
    else none
  | _, _ => none
inductive TInv {c : Ctx0} (ns : List (Str × NK)) (env : Env) (Δ : List Str → List Slot) (A : Around) (n₀ : Addr → Prop) (W : List Addr) (G₂ : PH c.w) (s₂ : Shared) (D : Nat → Heap → Prop) (es : List Str) (res : Option (List Str)) (k : Nat) (s' : Shared) : Prop where
  | mk (i : Nat) (tsi : List Str) (G' : PH c.w) (hk : k = es.length - i + 1) (hi : i ≤ es.length) (hD : D i s'.heap) (hS : St c ns env (Δ tsi) A (addW n₀ W) G' s') (hG : ∀ b ∈ W, G' b = none) (st : Step A n₀ G₂ s₂ G' s') (hl : tsi.length ≤ sizeLine) (hF : remAll tsi (es.drop i) = res) :
      TInv ns env Δ A n₀ W G₂ s₂ D es res k s'
theorem set_un_own {Γ : List Slot} {je it : Nat} {x y : Slot} {v : Slot} (hne : it ≠ je) : ((((Γ.set je .un).set it x).set je v).set it y).set je .un = (Γ.set je .un).set it y := by
  apply List.ext_getElem?
  intro l
  simp only [List.getElem?_set, List.length_set]
  by_cases q1 : je = l
  · subst q1
    simp [hne]
  · by_cases q2 : it = l
    · subst q2; simp [q1]
    · simp [q1, q2]
noncomputable abbrev RemPost (c : Ctx0) (ns : List (Str × NK)) (env : Env) (Γ : List Slot) (A : Around) (n₀ : Addr → Prop) (G : PH c.w) (s : Shared) (k : Str) (ts : List Str) : Flow → Shared → Prop := fun f s' => f = .next ∧ k ∈ ts ∧ St c ns env Γ A n₀ G s' ∧ Step A n₀ G s G s'
noncomputable abbrev RemExc (s : Shared) (k : Str) (ts : List Str) : Value → Shared → Prop := fun x s' => ∃ h' tk a, x = .ref a ∧ s' = { s with heap := h', toks := tk } ∧ Heap.NewExc s.heap h' a "ValueError" ∧ s.toks ≤ tk ∧ k ∉ ts
theorem tryrem_loop {tgt : PySem.Expr} {b : List Stmt} {R : Result → Shared → Prop} {es ts : List Str} {it je : Nat} {A : Around} {n₀ : Addr → Prop} {G₂ : PH c.w} {s₂ : Shared} {I : Addr} {W : List Addr} {D : Nat → Heap → Prop}
    (hnm : noMeth Γ = true) (hne : it ≠ je) (hl2 : ts.length ≤ sizeLine) (O : Off ns env A W)
    (T : Tk c ns env A tgt I W n₀ G₂ (bd1 je) (es.map .str) D) (hD : D 0 s₂.heap) (S₂ : St c ns env ((Γ.set je .un).set it (.own (ts.map .str))) A (addW n₀ W) G₂ s₂) (hW : ∀ b ∈ W, G₂ b = none)
    (hbody : ∀ {G : PH c.w} {s : Shared} {tsi : List Str} {k : Str}, St c ns env (((Γ.set je .un).set it (.own (tsi.map .str))).set je (.val (.str k))) A (addW n₀ W) G s → tsi.length ≤ sizeLine →
      wpAny c.M A (execs b env) (RemPost c ns env ((((Γ.set je .un).set it (.own (tsi.map .str))).set je (.val (.str k))).set it (.own ((tsi.erase k).map .str))) A (addW n₀ W) G s k tsi) (RemExc s k tsi) s)
    (hR : ∀ ts' (G' : PH c.w) s₁, remAll ts es = some ts' → St c ns env ((Γ.set je .un).set it (.own (ts'.map .str))) A n₀ G' s₁ → Step A n₀ G₂ s₂ G' s₁ → R (.ok .next) s₁)
    (hE : ∀ (G' : PH c.w) s₁ h' tk a, remAll ts es = none → GS c A G' s₁ → Step A n₀ G₂ s₂ G' s₁ → Heap.NewExc s₁.heap h' a "ValueError" → s₁.toks ≤ tk → notedBy c.M A env (fun e s' => R (.error e) s') (.ref a) { s₁ with heap := h', toks := tk }) :
    codeAny c.M A (.forLoop tgt (.ref I) b [] env) R s₂ := by
  have hNm : ∀ us, noMeth ((Γ.set je .un).set it (.own us)) = true := fun us => noMeth_set (noMeth_set hnm fun _ _ h => nomatch h) fun _ _ h => nomatch h
  refine codeAny_forLoop_any (TInv (c := c) ns env (fun us => (Γ.set je .un).set it (.own (us.map .str))) A n₀ W G₂ s₂ D es (remAll ts es)) ?_ (es.length + 1) (.mk 0 ts G₂ (by rw [Nat.sub_zero]) (Nat.zero_le _) hD S₂ hW (Step.refl (St.gs S₂)) hl2 rfl)
  rintro k s' ⟨i, tsi, G', rfl, hi, hD', hS', hG', st, hl', hF⟩
  cases hx' : es[i]? with
  | none =>
    have hin : i = es.length := Nat.le_antisymm hi (by simpa using hx')
    subst hin
    rw [List.drop_length] at hF
    have hDe : D (es.map PV.str).length s'.heap := by rw [List.length_map]; exact hD'
    refine wm (T.done _ G' s' (fun s₁ => St c ns env ((Γ.set je .un).set it (.own (tsi.map .str))) A n₀ G' s₁ ∧ Step A n₀ G₂ s₂ G' s₁) _ hDe hS' hG' fun s₁ S₁ st₁ => ⟨S₁, st.trans st₁⟩) (fun r s₁ h₁ => ?_)
    obtain rfl := h₁.1
    exact wpAny_execs_nil (hR tsi G' s₁ hF.symm h₁.2.1 h₁.2.2)
  | some kx' =>
    have hlt : i < es.length := (List.getElem?_eq_some_iff.mp hx').1
    rw [List.drop_eq_getElem_cons hlt, (List.getElem?_eq_some_iff.mp hx').2] at hF
    have hxm : (es.map PV.str)[i]? = some (.str kx') := by rw [List.getElem?_map, hx']; rfl
    refine wm (T.item i (.str kx') _ G' s' (fun s₃ => D (i + 1) s₃.heap ∧ St c ns env (bd1 je (.str kx') ((Γ.set je .un).set it (.own (tsi.map .str)))) A (addW n₀ W) G' s₃ ∧ Step A n₀ G' s' G' s₃) _ hxm hD' hS' st.le hG' fun s₃ a b c => ⟨a, b, c⟩) (fun r s₁ hv => ?_)
    obtain ⟨v, rfl, hv⟩ := hv
    refine wm hv (fun _ s₂' hv₂ => wm hv₂ (fun _ s₃ h₃ => ?_))
    have hD₃ := h₃.1
    have st₃ := h₃.2.2
    have S₃ := h₃.2.1
    rw [show bd1 je (.str kx') ((Γ.set je .un).set it (.own (tsi.map .str))) = ((Γ.set je .un).set it (.own (tsi.map .str))).set je (.val (.str kx')) by unfold bd1; rw [clr_noMeth (hNm _)]] at S₃
    refine wpAny_mono (hbody S₃ hl') (fun f s₄ h₄ => ?_) fun x s₄ h₄ => ?_
    · obtain rfl := h₄.1
      have x₄ := h₄.2.2.2
      have SV₅ := h₄.2.2.1.elim fun V₄ SV₄ => (⟨V₄, SV₄.un je⟩ : St c ns env _ A (addW n₀ W) G' s₄)
      rw [set_un_own hne] at SV₅
      refine ⟨es.length - (i + 1) + 1, turn_lt hlt, .mk (i + 1) (tsi.erase kx') G' rfl hlt ?_ SV₅ hG' ((st.trans st₃).trans (x₄.up fun b hb => .inl hb)) (Nat.le_trans (List.length_erase_le) hl') ?_⟩
      · exact T.frame _ _ _ hD₃ (fun b hb o e => x₄.keep b o (.inr hb) e (fun z => O.t86 (z ▸ hb)) (fun z => O.fs b z hb)) fun b o e => ⟨S₃.gs.sub b o (st.le b o e), x₄.sub b o (x₄.le b o (st.le b o e))⟩
      · rw [← hF]
        show _ = if kx' ∈ tsi then _ else _
        rw [if_pos h₄.2.1]
    · obtain ⟨h', tk, a, rfl, rfl, X, htk, hno⟩ := h₄
      refine hE G' s₃ h' tk a ?_ S₃.gs (st.trans st₃) X htk
      rw [← hF]
      show (if kx' ∈ tsi then _ else _) = _
      rw [if_neg hno]
set_option tactic.hygienic true in
theorem C1F_tryrem (C : Cok c) (K : EnvK ns nm env) (hk : nm.lookup ("ValueError" : Str) = some .globalImplicit) (gv : GV c "ValueError" (.type "ValueError")) {x t el : Str} {tp ap ep cp xp np ip fp vp rp hp p pos : Pos} {kk : Nat} {ix it je : Nat} {kx kt ke : NK} (hix : findN ns x 0 = some (ix, kx)) (hit : findN ns t 0 = some (it, kt)) (hje : findN ns el 0 = some (je, ke)) (hke : (ke != .cap) = true)
    (hline : (ap.endLine == cp.line) = true) (hint : interactive env = false) (hsw : swapsWith (.Call (.Attribute (.Name t tp) "remove" ap) [.Name el ep] [] cp) none xp.line env = pure false)
    (hbase : attributeBase (.Name t tp) "remove" env (eval (.Name t tp) env) = eval (.Name t tp) env)
    (hs : ∀ y, foldedSetIterable (.Name x ip) env y = pure y) :
    C1F c d ns env (.Try [.For (.Name el np) (.Name x ip) [.Expr (.Call (.Attribute (.Name t tp) "remove" ap) [.Name el ep] [] cp) xp] [] fp] [.ExceptHandler (some (.Name "ValueError" vp)) none [.Return (some (.Constant (.bool false) kk p)) rp] hp] [] [] pos) (tryremF ix it je) := ⟨fun Γ o hv => by
  unfold tryremF at hv
  split at hv
  case h_2 => cases hv
  rename_i xs us hx hu
  obtain ⟨es, hes, hv1⟩ := bind_some hv
  obtain ⟨ts, hts, hv2⟩ := bind_some hv1
  clear hv hv1
  split at hv2
  case isFalse => cases hv2
  rename_i hc
  obtain ⟨hnm, hne, hlen, hjl⟩ := hc
  have e1 := strsP_eq hes
  have e2 := strsP_eq hts
  subst e1 e2
  refine ⟨fun A n₀ G s E rm ⟨F, hA⟩ S => wpAny_Try_except ?_⟩
  have hCI : IX1 c d ns env Γ (.Name x ip) (es.map .str) := (CI_val (CE_name K hix)).run Γ _ (by show (rd ix Γ).bind itemsP = _; unfold rd; rw [hx]; rfl)
  refine wpAny_execs_cons ?_
  refine wpAny_For (wm (hCI.run A n₀ G s _ rm S) (fun V s₁ h₁ => wm h₁ (fun it' s₂ hpt => ?_))) hs
  obtain ⟨G₂, I, W, D, e, Sr, hD, hW, _, x₂⟩ := hpt
  subst e
  obtain ⟨V, SV⟩ := S
  have O := SV.off fun b hb => (hW b hb).1
  have hnW : ∀ b ∈ W, ¬ n₀ b := fun b hb q => (hW b hb).1 (SV.bel b q)
  have T := Sr.tk K.ok (pos := np) (findN_get hje) (by simpa using hke) O SV.base SV.fsl hnW
  have S₂ := (SV.grow x₂ fun b hb => ⟨(hW b hb).1, Sr.live _ _ hD b hb⟩).un je
  have own0 : (Γ.set je .un).set it (.own (ts.map .str)) = Γ.set je .un := by
    apply List.ext_getElem?
    intro l
    rw [List.getElem?_set]
    split
    · rename_i q
      subst q
      rw [List.getElem?_set_ne (Ne.symm hne), hu, if_pos (by rw [List.length_set]; exact (List.getElem?_eq_some_iff.mp hu).1)]
    · rfl
  have x₂' := x₂.up fun b hb => SV.bel b hb
  have S₂' : St c ns env ((Γ.set je .un).set it (.own (ts.map .str))) A (addW n₀ W) G₂ s₂ := ⟨V, by rw [own0]; exact S₂⟩
  have hitl : it < Γ.length := (List.getElem?_eq_some_iff.mp hu).1
  refine tryrem_loop hnm hne hlen O T hD S₂' (fun b hb => (hW b hb).2) (fun {G s tsi k} S₃ hl' => rem_stmt C K hit hje hline hint hsw hbase rm.handled S₃ ?_ ?_ hl') (fun ts' G' s₁ hr S₁ st => ?_) fun G' s₁ h' tk a hr g X htk st => ?_
  · rw [List.getElem?_set_ne (Ne.symm hne), List.getElem?_set_self (by rw [List.length_set]; exact hitl)]
  · exact List.getElem?_set_self (by simpa using hjl)
  · rw [hr] at hv2
    cases hv2
    exact wpAny_execs_nil (wpAny_execs_nil ⟨G', ⟨rfl, S₁⟩, x₂'.trans st⟩)
  · rw [hr] at hv2
    cases hv2
    exact caught C K hk gv rm hA (n₀ := n₀) g htk st fun s'' x'' => ⟨G', ⟨.bool false, rfl, rfl⟩, (x₂'.trans X).trans x''⟩⟩
end
end

section
noncomputable def recw_ : DefRec := recK 3
structure Kd (c : Ctx0) : Prop where
  at_ : ∃ a o pm code doc kA m, c.mg "_deduplicate" = some (.ref a) ∧ c.hb.get? a = some o ∧ o.data = .func { Calls.docDef recw_.name recw_.params recw_.body recw_.scope pm code doc with kwdefaults := .ref kA } ∧ c.hb.CodeRec code recw_.name ∧ c.hb.Ns kA m ∧ m "unhashable_fallback" = some (.bool false)
section
variable {M : Model} {A : Around} {E : Value → Shared → Prop} {s : Shared}
theorem bind_join (pm cd doc V1 V2 V3 : Value) : bindArgs (Calls.docDef (recK 28).name (recK 28).params (recK 28).body (recK 28).scope pm cd doc) ⟨[V1, V2, V3], []⟩ = (newTuple [V2, V3] >>= fun t => pure [(("a" : Str), V1), (("p" : Str), t)]) := by rfl
theorem nsLook_ns {o : Obj} {es : Array DictEntry} {n : Nat} {x : Str} {v : Value} (hd : o.data = .dict es n) (hv : nsFind es x = some v) : nsLook x o = pure (some v) := by
  rw [nsLook_eq]
  unfold nsLookByArray
  rw [hd]
  unfold nsFind findBy at hv
  dsimp only
  cases hf : es.find? (·.key.isStr x) with
  | none => rw [hf] at hv; exact nsome hv
  | some e => rw [hf] at hv; exact congrArg pure hv
theorem bind_kw1 {pm cd doc V v : Value} {kA : Addr} :
    ∃ k : Obj → Sem (List (Str × Value)), bindArgs { Calls.docDef recw_.name recw_.params recw_.body recw_.scope pm cd doc with kwdefaults := .ref kA } ⟨[V], []⟩ = .load kA (some (.str "unhashable_fallback" 0)) k ∧ ∀ o, nsLook "unhashable_fallback" o = pure (some v) → k o = (pure [(("params" : Str), V), (("unhashable_fallback" : Str), v)] : Sem (List (Str × Value))) := by
  refine ⟨_, rfl, fun o ho => ?_⟩
  change Sem.bind (Sem.bind (Sem.bind (nsLook ("unhashable_fallback" : Str) o) _) _) _ = _
  rw [ho]
  rfl
theorem bind_dedup {pm cd doc V : Value} {kA : Addr} {m : Str → Option Value} {Q : List (Str × Value) → Shared → Prop} (hn : s.heap.Ns kA m) (hm : m "unhashable_fallback" = some (.bool false)) (h : Q [("params", V), ("unhashable_fallback", .bool false)] s) :
    wpAny M A (bindArgs { Calls.docDef recw_.name recw_.params recw_.body recw_.scope pm cd doc with kwdefaults := .ref kA } ⟨[V], []⟩) Q E s := by
  obtain ⟨o, es, ep, ho, hd, hk, hm'⟩ := hn
  obtain ⟨k, e, hkk⟩ := bind_kw1 (pm := pm) (cd := cd) (doc := doc) (V := V) (v := .bool false) (kA := kA)
  rw [e]
  refine wpAny_bind (m := loadPart kA (some (.str ("unhashable_fallback" : Str) 0))) (f := k) (wpAny_loadPart ho ?_)
  rw [hkk o (nsLook_ns hd ((hm' _).trans hm))]
  exact wpAny_pure h
end
section
variable {c : Ctx0} {d : Nat}
theorem FnOK.hyps {ns : List (Str × NK)} {ps : List Str} {fd : FuncData} (O : FnOK ns fd.scope.names ps) (hkind : fd.scope.kind = .function) (hg : fd.globals = mainGlobals) (hb : fd.builtins = builtinsNs) (a : Addr) :
    (∀ (i : Nat) x kk, ns[i]? = some (x, kk) → kk ≠ .cap) ∧ (∀ L, EnvOK ns (callEnvC fd L a)) ∧ (∀ L (i : Nat) x, ns[i]? = some (x, .own) → ((callEnvC fd L a).cells.lookup x).isSome = true) := by
  refine ⟨fun i x kk hi => ?_, fun L => (O.env hkind hg hb L a).ok, fun L i x hi => ?_⟩
  · rcases (O.each i x kk hi).2 with ⟨e, _⟩ | ⟨e, _⟩ <;> (rw [e]; decide)
  · rcases (O.each i x _ hi).2 with ⟨e, _⟩ | ⟨_, e⟩
    · cases e
    · have := (cellsFrom_gen fd.scope.names { objs := Array.replicate (L + 1) default } []).2.1 x (mem_of_lookup e)
      rw [show ({ objs := Array.replicate (L + 1) default } : Heap).objs.size = L + 1 by simp] at this
      exact this
theorem Gl_defF (K : Kc c) {dd : DefRec} (hdd : dd ∈ recsOf Pw) (ns : List (Str × NK)) (ps : List Str) (k : Nat) {F : SF Out} (hok : fnOk ns dd.scope.names ps = true) (hkind : dd.scope.kind = .function)
    (hco : dd.scope.isCoroutine = false) (hgen : dd.scope.isGenerator = false)
    (hbind : ∀ (pm cd doc : Value) (Vs : List Value), Vs.length = ps.length → bindArgs (Calls.docDef dd.name dd.params dd.body dd.scope pm cd doc) ⟨Vs, []⟩ = pure (ps.zip Vs))
    (hb : ∀ env, EnvK ns dd.scope.names env → CSF c d ns env dd.body F) : Gl c (d + 1) dd.name (fnF ps.length k F) := by
  obtain ⟨a, o, pm, code, doc, h1, h2, h3, h4⟩ := K.fn dd hdd
  refine ⟨.ref a, .inl h1, .fn h2 h3, ⟨fun args v h => ?_⟩⟩
  have O := FnOK.of hok
  unfold fnF at h
  split at h
  case isFalse => cases h
  rename_i hl
  obtain ⟨out, ho, h⟩ := bind_some h
  cases out with
  | next _ => cases h
  | brk _ => cases h
  | ret v' =>
    cases h
    have D : DefAt c a (Calls.docDef dd.name dd.params dd.body dd.scope pm code doc) := ⟨⟨o, h2, h3⟩, h4, rfl, rfl, rfl⟩
    obtain ⟨y1, y2, y3⟩ := FnOK.hyps (fd := Calls.docDef dd.name dd.params dd.body dd.scope pm code doc) O hkind rfl rfl a
    refine FN_defB K.toCok ps k D rfl O.ps y1 O.ndp hl (fun A G s Vs E Q g big hh hQ => ?_) y2 y3 (fun L => (hb _ (O.env (fd := Calls.docDef dd.name dd.params dd.body dd.scope pm code doc) hkind rfl rfl L a)).run _ _ ho) hco hgen
    rw [hbind pm code doc Vs (hh.length.trans hl)]
    exact wpAny_pure (hQ Vs G s hh (Step.refl g))
noncomputable def joinF (F : SF Out) : List PV → Option PV
  | [a, b, e] => (F (start [a, .tuple [b, e]] 3)).bind fun o => match o with
    | .ret v => some v
    | _ => none
  | _ => none
set_option tactic.hygienic true in
theorem Gl_join (K : Kc c) {F : SF Out} (hb : ∀ env, EnvK [("a", .loc), ("p", .loc), ("sep", .loc), ("path", .loc), ("b", .loc)] (recK 28).scope.names env → CS c d [("a", .loc), ("p", .loc), ("sep", .loc), ("path", .loc), ("b", .loc)] env (recK 28).body F) : Gl c (d + 1) (recK 28).name (joinF F) := by
  have hdd : recK 28 ∈ recsOf Pw := recK_mem (by decide)
  obtain ⟨a, o, pm, code, doc, h1, h2, h3, h4⟩ := K.fn _ hdd
  refine ⟨.ref a, .inl h1, .fn h2 h3, ⟨fun args v h => ?_⟩⟩
  have O : FnOK [("a", .loc), ("p", .loc), ("sep", .loc), ("path", .loc), ("b", .loc)] (recK 28).scope.names ["a", "p"] := FnOK.of (by decide +kernel)
  unfold joinF at h
  split at h
  case h_2 => cases h
  rename_i x y z
  obtain ⟨out, ho, h⟩ := bind_some h
  cases out with
  | next _ => cases h
  | brk _ => cases h
  | ret v' =>
    cases h
    have D : DefAt c a (Calls.docDef (recK 28).name (recK 28).params (recK 28).body (recK 28).scope pm code doc) := ⟨⟨o, h2, h3⟩, h4, rfl, rfl, rfl⟩
    have hkind : (recK 28).scope.kind = .function := by decide +kernel
    obtain ⟨y1, y2, y3⟩ := FnOK.hyps (fd := Calls.docDef (recK 28).name (recK 28).params (recK 28).body (recK 28).scope pm code doc) O hkind rfl rfl a
    refine FN_defB (args' := [x, .tuple [y, z]]) K.toCok ["a", "p"] 3 D rfl O.ps y1 O.ndp rfl (fun A G s Vs E Q g big hh hQ => ?_) y2 y3 (fun L => (CSF.of (hb _ (O.env (fd := Calls.docDef (recK 28).name (recK 28).params (recK 28).body (recK 28).scope pm code doc) hkind rfl rfl L a))).run _ _ ho) (by rfl) (by rfl)
    obtain ⟨V1, _, rfl, q1, V2, _, rfl, q2, V3, _, rfl, q3, rfl⟩ := hh
    rw [bind_join]
    refine wpAny_bind (wpAny_newTuple (wpAny_pure ?_) (by simp [sizeLine]))
    have st := Step.push g (tobj [V2, V3] 0) rfl s.toks (Nat.le_refl _)
    exact hQ [V1, .ref s.heap.objs.size] _ _ ⟨_, _, rfl, q1.mono st.le, _, _, rfl, ⟨_, [V2, V3], 0, rfl, pin_self, _, _, rfl, q2.mono st.le, _, _, rfl, q3.mono st.le, rfl⟩, rfl⟩ st
noncomputable def dedupF (F : SF Out) : List PV → Option PV
  | [a] => (F (start [a, .bool false] 0)).bind fun o => match o with
    | .ret v => some v
    | _ => none
  | _ => none
set_option tactic.hygienic true in
theorem Gl_dedup (C : Cok c) (D : Kd c) {F : SF Out} (hb : ∀ env, EnvK [("params", .loc), ("unhashable_fallback", .loc)] recw_.scope.names env → CS c d [("params", .loc), ("unhashable_fallback", .loc)] env recw_.body F) : Gl c (d + 1) "_deduplicate" (dedupF F) := by
  obtain ⟨a, o, pm, code, doc, kA, m, h1, h2, h3, h4, h5, h6⟩ := D.at_
  refine ⟨.ref a, .inl h1, .fn h2 h3, ⟨fun args v h => ?_⟩⟩
  have O : FnOK [("params", .loc), ("unhashable_fallback", .loc)] recw_.scope.names ["params", "unhashable_fallback"] := FnOK.of (by decide +kernel)
  unfold dedupF at h
  split at h
  case h_2 => cases h
  rename_i x
  obtain ⟨out, ho, h⟩ := bind_some h
  cases out with
  | next _ => cases h
  | brk _ => cases h
  | ret v' =>
    cases h
    have DA : DefAt c a { Calls.docDef recw_.name recw_.params recw_.body recw_.scope pm code doc with kwdefaults := .ref kA } := ⟨⟨o, h2, h3⟩, h4, rfl, rfl, rfl⟩
    have hkind : recw_.scope.kind = .function := by decide +kernel
    obtain ⟨y1, y2, y3⟩ := FnOK.hyps (fd := { Calls.docDef recw_.name recw_.params recw_.body recw_.scope pm code doc with kwdefaults := .ref kA }) O hkind rfl rfl a
    refine FN_defB (args' := [x, .bool false]) C ["params", "unhashable_fallback"] 0 DA rfl O.ps y1 O.ndp rfl (fun A G s Vs E Q g big hh hQ => ?_) y2 y3 (fun L => (CSF.of (hb _ (O.env (fd := { Calls.docDef recw_.name recw_.params recw_.body recw_.scope pm code doc with kwdefaults := .ref kA }) hkind rfl rfl L a))).run _ _ ho) (by rfl) (by rfl)
    obtain ⟨V1, _, rfl, q1, rfl⟩ := hh
    refine bind_dedup (h5.keeps g.up) h6 ?_
    exact hQ [V1, .bool false] G s ⟨_, _, rfl, q1, _, _, rfl, rfl, rfl⟩ (Step.refl g)
theorem truthy_pv {v : PV} {V : Value} {b : Bool} (ht : truth v = some b) {A : Around} {G : PH c.w} {s : Shared} {E : Value → Shared → Prop} {Q : Bool → Shared → Prop} (g : GS c A G s) (hh : Holds (w := c.w) (Vis A s.heap) v V)
    (hQ : ∀ tk, s.toks ≤ tk → Q b { s with toks := tk }) : wpAny c.M A (truthy V) Q E s := by
  cases v with
  | bool b' => cases ht; obtain rfl : V = .bool _ := hh; exact wpAny_truthy_bool (hQ s.toks (Nat.le_refl _))
  | int i => cases ht; obtain ⟨t, rfl⟩ := hh; exact truthy_int (hQ s.toks (Nat.le_refl _))
  | str y =>
    simp only [truth] at ht
    split at ht
    · rename_i hl
      cases ht; obtain ⟨t, rfl⟩ := hh
      exact P.truthy_str (by unfold sizeLine at hl; omega) (hQ (s.toks + 1 + 1) (Nat.le_add_right _ 2))
    · cases ht
  | list xs =>
    simp only [truth] at ht
    split at ht
    · rename_i hl
      cases ht; obtain ⟨a, vs, n, rfl, ga, hv⟩ := hh
      have hlen := hv.length
      refine wpAny_truthy_list (items := vs.toArray) ⟨_, Vis.sub ga, rfl, n, rfl⟩ (by simp only [List.size_toArray]; unfold sizeLine at hl; omega) ?_
      have : xs.isEmpty = vs.isEmpty := by cases xs <;> cases vs <;> simp_all
      have h2 := hQ (s.toks + 1 + 1) (Nat.le_add_right _ 2)
      rw [this] at h2
      simpa using h2
    · cases ht
  | none => cases ht
  | tuple _ => cases ht
  | dict _ => cases ht
  | raw _ => cases ht
  | obj => cases ht
  | iset _ => cases ht
theorem CE_not {ns : List (Str × NK)} {env : Env} {e : PySem.Expr} {pos : Pos} {F} (h : CT c d ns env e F) : CE c d ns env (.UnaryOp .Not e pos) (fun Γ => ((F Γ).bind truth).map fun b => .bool (!b)) := ⟨fun Γ v hv => by
  obtain ⟨b, hb, e'⟩ := Option.map_eq_some_iff.mp hv
  subst e'
  obtain ⟨u, hu, ht⟩ := bind_some hb
  refine ⟨fun A n₀ G s E rm S => ?_⟩
  rw [arm_eval_UnaryOp]
  refine wb ((h.run Γ u hu).run A n₀ G s E rm S) (fun V s₁ ⟨G₁, hh, x₁⟩ => ?_)
  have g := (S.step x₁).gs
  refine wbs (wpAny_holding ?_)
  show wpAny _ _ (holding [V] (truthy V >>= fun r => pure (Value.bool (!r)))) _ _ _
  refine wpAny_holding ?_
  exact wpAny_bind (truthy_pv ht g hh fun tk htk => wpAny_pure ⟨G₁, rfl, x₁.then (Step.tok g _ tk htk)⟩)⟩
end
end

section
set_option maxHeartbeats 8000000
noncomputable def tr_join : Σ' F : List PV → Option PV, ∀ c, KA c → Gl c 2 "join" F := by
  refine' ⟨joinF _, fun c Ka => ?_⟩
  rotate_left
  have K := Ka.toKc
  refine' (show Gl c 2 (recK 28).name (joinF _) from ?_)
  apply Gl_join K
  intro env KE
  refine' CS_cons _ _
  apply C1_assign (EnvK.ok (by assumption)) (by rfl) (by rfl) (hs := by rfl)
  apply CE_call (Kc.toCok (by assumption)) (by assumption) (by decide +kernel) (by exact Gl.up (tr_fspath.2 _ (by assumption)) (by decide))
  apply CL_cons
  apply CE_name (by assumption); rfl
  apply CL_nil
  intros; rfl
  rfl
  rfl
  intro cenv KE
  rfl
  apply CS_cons
  apply C1_assign (EnvK.ok (by assumption)) (by rfl) (by rfl) (hs := by rfl)
  apply CE_call (Kc.toCok (by assumption)) (by assumption) (by decide +kernel) (by exact Gl.up (tr_sep.2 _ (by assumption)) (by decide))
  apply CL_cons
  apply CE_name (by assumption); rfl
  apply CL_nil
  intros; rfl
  rfl
  rfl
  intro cenv KE
  rfl
  apply CS_cons
  apply C1_assign (EnvK.ok (by assumption)) (by rfl) (by rfl) (hs := by rfl)
  apply CE_name (by assumption); rfl
  apply CS_cons
  apply C1_try
  apply CS_cons
  apply C1_for1 (EnvK.ok (by assumption)) (by rfl) (by decide)
  apply CI_val
  apply CE_name (by assumption); rfl
  apply CS_cons
  apply C1_assign (EnvK.ok (by assumption)) (by rfl) (by rfl) (hs := by rfl)
  apply CE_call (Kc.toCok (by assumption)) (by assumption) (by decide +kernel) (by exact Gl.up (tr_fspath.2 _ (by assumption)) (by decide))
  apply CL_cons
  apply CE_name (by assumption); rfl
  apply CL_nil
  intros; rfl
  rfl
  rfl
  intro cenv KE
  rfl
  apply CS_cons
  apply C1_if
  apply CB_or
  apply CB_truth (he := by intros; rfl)
  apply CE.t
  apply CE_meth SM_startswith
  apply CE_name (by assumption); rfl
  apply CL_cons
  apply CE_name (by assumption); rfl
  apply CL_nil
  intros; rfl
  rfl
  rfl
  intro cenv KE
  rfl
  intro cenv KE
  rfl
  apply CB_not
  apply CB_truth (he := by intros; rfl)
  apply CT_name (by assumption); rfl
  apply CS_cons
  apply C1_assign (EnvK.ok (by assumption)) (by rfl) (by rfl) (hs := by rfl)
  apply CE_name (by assumption); rfl
  apply CS_nil
  apply CS_cons
  apply C1_if
  apply CB_truth (he := by intros; rfl)
  apply CE.t
  apply CE_meth SM_endswith
  apply CE_name (by assumption); rfl
  apply CL_cons
  apply CE_name (by assumption); rfl
  apply CL_nil
  intros; rfl
  rfl
  rfl
  intro cenv KE
  rfl
  intro cenv KE
  rfl
  apply CS_cons
  apply C1_aug (by assumption) (o := IOp_add)
  rfl
  rfl
  apply CE_name (by assumption); rfl
  apply CS_nil
  apply CS_cons
  apply C1_aug (by assumption) (o := IOp_add)
  rfl
  rfl
  apply CE_bin (b := BOp_add)
  apply CE_name (by assumption); rfl
  apply CE_name (by assumption); rfl
  apply CS_nil
  apply CS_nil
  apply CS_nil
  intros; rfl
  apply CS_nil
  apply CS_cons
  apply C1_ret_name (by assumption) (by rfl)
  apply CS_nil
noncomputable def tr_deduplicate : Σ' F : List PV → Option PV, ∀ c, KA c → Kd c → Gl c 1 "_deduplicate" F := by
  refine' ⟨dedupF _, fun c Ka D => ?_⟩
  rotate_left
  have K := Ka.toKc
  apply Gl_dedup K.toCok D
  intro env KE
  refine' CS_cons _ _
  apply C1_try
  apply CS_cons
  apply C1_ret
  apply CE_fromkeys (Kc.toCok (by assumption)) (by assumption) (by rfl) (by decide +kernel) (Kc.gv (by assumption) (by decide +kernel) (by decide +kernel))
  apply CE_name (by assumption); rfl
  rfl
  rfl
  rfl
  rfl
  apply CS_nil
  apply CS_nil
noncomputable def tr_deduplicate_unhashable : Σ' F : List PV → Option PV, ∀ c, KA c → Gl c 1 "_deduplicate_unhashable" F := by
  refine' ⟨fnF 1 2 _, fun c Ka => ?_⟩
  rotate_left
  have K := Ka.toKc
  have Sp := Ka.sp
  have Kt_ := Ka.kt
  have Kp_ := Ka.kp
  refine' (show Gl c 1 (recK 4).name (fnF 1 2 _) from ?_)
  apply Gl_def K (recK_mem (by decide)) [("unhashable_params", .loc), ("new_unhashable", .loc), ("t", .loc)] ["unhashable_params"] 2 (by decide +kernel) (by decide +kernel) (by decide +kernel) (by decide +kernel)
  · intro pm cd doc Vs hl
    obtain ⟨x, rfl⟩ := List.length_eq_one_iff.mp hl
    rfl
  · intro env KE
    refine' CS_cons _ _
    apply C1_own_nil (EnvK.ok (by assumption)) (by rfl) (by rfl)
    rfl
    apply CS_cons
    apply C1_for1 (EnvK.ok (by assumption)) (by rfl) (by decide)
    apply CI_val
    apply CE_name (by assumption); rfl
    apply CS_cons
    apply C1_if
    apply CB_cmp (b := COp_notin)
    apply CT_name (by assumption); rfl
    apply CT_name (by assumption); rfl
    rfl
    apply CS_cons
    apply C1_append (by assumption) (by rfl)
    apply CE_name (by assumption); rfl
    rfl
    rfl
    rfl
    rfl
    exact interactive_no (by assumption)
    rfl
    apply CS_nil
    apply CS_nil
    apply CS_nil
    intros; rfl
    apply CS_cons
    apply C1_ret_name (by assumption) (by rfl)
    apply CS_nil
noncomputable def tr_compare_args_orderless : Σ' F : List PV → Option PV, ∀ c, KA c → Gl c 2 "_compare_args_orderless" F := by
  refine' ⟨fnF 2 4 _, fun c Ka => ?_⟩
  rotate_left
  have K := Ka.toKc
  have Sp := Ka.sp
  have Kt_ := Ka.kt
  have Kp_ := Ka.kp
  refine' (show Gl c 2 (recK 5).name (fnF 2 4 _) from ?_)
  apply Gl_defF K (recK_mem (by decide)) [("first_args", .loc), ("second_args", .loc), ("first_unhashable", .loc), ("second_unhashable", .loc), ("t", .loc), ("elem", .loc)] ["first_args", "second_args"] 4 (by decide +kernel) (by decide +kernel) (by decide +kernel) (by decide +kernel)
  · intro pm cd doc Vs hl
    obtain ⟨_, _, rfl⟩ := len2 hl
    rfl
  · intro env KE
    refine' CSF_cons _ _
    apply C1F.of
    apply C1_assign (EnvK.ok (by assumption)) (by rfl) (by rfl) (hs := by rfl)
    apply CE_call (Kc.toCok (by assumption)) (by assumption) (by decide +kernel) (by exact Gl.up (tr_deduplicate_unhashable.2 _ (by assumption)) (by decide))
    apply CL_cons
    apply CE_name (by assumption); rfl
    apply CL_nil
    intros; rfl
    rfl
    rfl
    intro cenv KE
    rfl
    apply CSF_cons
    apply C1F.of
    apply C1_assign (EnvK.ok (by assumption)) (by rfl) (by rfl) (hs := by rfl)
    apply CE_call (Kc.toCok (by assumption)) (by assumption) (by decide +kernel) (by exact Gl.up (tr_deduplicate_unhashable.2 _ (by assumption)) (by decide))
    apply CL_cons
    apply CE_name (by assumption); rfl
    apply CL_nil
    intros; rfl
    rfl
    rfl
    intro cenv KE
    rfl
    apply CSF_cons
    apply C1F.of
    apply C1_list_own (Kc.toCok (by assumption)) (by assumption) (by rfl) (by rfl) (by decide +kernel) (Kc.gv (by assumption) (by decide +kernel) (by decide +kernel))
    apply CE_name (by assumption); rfl
    rfl
    rfl
    intros; rfl
    apply CSF_cons
    apply C1F_tryrem (Kc.toCok (by assumption)) (by assumption) (by decide +kernel) (Kc.gv (by assumption) (by decide +kernel) (by decide +kernel)) (by rfl) (by rfl) (by rfl)
    rfl
    rfl
    exact interactive_no (by assumption)
    rfl
    rfl
    intros; rfl
    apply CSF_cons
    apply C1F.of
    apply C1_ret
    apply CE_not
    apply CT_name (by assumption); rfl
    apply CSF.of; apply CS_nil
end

section
section
variable {c : Ctx0} {d : Nat} {ns : List (Str × NK)} {env : Env} {Γ : List Slot} {nm : List (Str × NameKind)}
theorem C1_asgA2 (K : EnvK ns nm env) {scope : Scope} {x y t : Str} {p1 p2 tpp pos tp sp : Pos} {kk : Nat} {iter elt : PySem.Expr} {ifs : List PySem.Expr} {i j l : Nat} {k k' ki : NK} {L : SF (List PV)} {T : SF Bool} {F : SF PV}
    (hi : findN ns t 0 = some (i, ki)) (hki : (ki != .cap) = true) (hsw : swapsP nm t tp pos scope.names = true)
    (C0 : compOk ns (nsOf scope.names) scope.names (mkCaps ns (nsOf scope.names)) = true) (hkind : scope.kind = .function) (hj : findN (nsOf scope.names) x 0 = some (j, k)) (hk : (k != .cap) = true) (hl : findN (nsOf scope.names) y 0 = some (l, k')) (hk' : (k' != .cap) = true) (hL : CI2 c d ns env iter L)
    (hts : ∀ cenv, EnvK (nsOf scope.names) (relN nm scope.names) cenv → CTs c d (nsOf scope.names) cenv ifs T) (hel : ∀ cenv, EnvK (nsOf scope.names) (relN nm scope.names) cenv → CE c d (nsOf scope.names) cenv elt F)
    (hs : ∀ x, foldedSetIterable iter env x = pure x) : C1 c d ns env (.Assign [.Name t tp] (.ListComp elt [⟨.Tuple [.Name x p1, .Name y p2] kk tpp, iter, ifs, 0⟩] scope pos) sp) (fun Γ => (compF (bd2 j l) (mkCaps ns (nsOf scope.names)) L T F Γ).map fun v => .next ((clr i Γ).set i (.val v))) := ⟨fun Γ o hv => ⟨fun A n₀ G s E rm S => by
  obtain ⟨v, hv1, e⟩ := Option.map_eq_some_iff.mp hv
  subst e
  clear hv
  obtain ⟨xs, hxs, hv⟩ := bind_some hv1
  split at hv
  · rename_i hsz
    obtain ⟨out, hout, e⟩ := Option.map_eq_some_iff.mp hv
    subst e
    obtain ⟨V, SV⟩ := S
    have hk1 : k ≠ .cap := by simpa using hk
    have hk2 : k' ≠ .cap := by simpa using hk'
    have hki' : ki ≠ .cap := by simpa using hki
    rw [exec_Assign_Name_used _ _ _ _ ((swaps_eq K).trans (by rw [hsw]))]
    refine wbs (wpAny_bind ?_)
    show wpAny _ A (do let _ ← comprehension (.ListComp elt [⟨.Tuple [.Name x p1, .Name y p2] kk tpp, iter, ifs, 0⟩] scope pos) scope env _ (newList []) false (eval iter env) (some (assign (.Name t tp) env))) _ _ s
    refine wpAny_bind (wm (Q := fun _ s' => ∃ G' : PH c.w, St c ns env ((clr i Γ).set i (.val (.list out))) A n₀ G' s' ∧ Step A n₀ G s G' s') (comp_core (Src := Src2) K (CompOK.of C0) hkind rm SV ((hL.run Γ xs hxs).run A n₀ G s E rm ⟨V, SV⟩) (fun S => S.live) (fun S hh hself ok' O h86 hf hW => S.tk ok' (findN_get hj) hk1 (findN_get hl) hk2 hh hself O h86 hf hW) hts hel hout hsz hs
      fun s' G' D C vs m f st hp hGD hbD hv hm hGC hbC hCD => fin_some K.ok (findN_get hi) hki' SV st hp hGD hbD hv hm hGC hbC hCD) (fun _ s' ⟨G', S', st⟩ => wpAny_pure (wpAny_pure ⟨G', ⟨rfl, S'⟩, st⟩)))
  · cases hv⟩⟩
end
set_option maxHeartbeats 8000000
noncomputable def tr_law_right : Σ' F : List PV → Option PV, ∀ c, KA c → Kd c → Gl c 4 "_law_right" F := by
  refine' ⟨fnF 3 6 _, fun c Ka Kd_ => ?_⟩
  rotate_left
  have K := Ka.toKc
  have Sp := Ka.sp
  have Kt_ := Ka.kt
  have Kp_ := Ka.kp
  refine' (show Gl c 4 (recK 37).name (fnF 3 6 _) from ?_)
  apply Gl_def K (recK_mem (by decide)) [("table", .loc), ("figures", .loc), ("signs", .loc), ("code", .loc), ("choice", .loc), ("told", .own), ("place", .loc), ("figure", .loc), ("due", .loc)] ["table", "figures", "signs"] 6 (by decide +kernel) (by decide +kernel) (by decide +kernel) (by decide +kernel)
  · intro pm cd doc Vs hl
    obtain ⟨_, _, _, rfl⟩ := len3 hl
    rfl
  · intro env KE
    refine' CS_cons _ _
    apply C1_for2 (EnvK.ok (by assumption)) (by rfl) (by decide) (by rfl) (by decide)
    apply CI_enum2 (Kc.toCok (by assumption)) (by assumption) (by decide +kernel) (Kc.gv (by assumption) (by decide +kernel) (by decide +kernel))
    apply CL_cons
    apply CE_name (by assumption); rfl
    apply CL_nil
    intros; rfl
    rfl
    rfl
    intro cenv KE
    rfl
    apply CS_cons
    apply C1_assign (EnvK.ok (by assumption)) (by rfl) (by rfl) (hs := by rfl)
    apply CE_int
    apply CS_cons
    apply C1_for2 (EnvK.ok (by assumption)) (by rfl) (by decide) (by rfl) (by decide)
    apply CI_enum2 (Kc.toCok (by assumption)) (by assumption) (by decide +kernel) (Kc.gv (by assumption) (by decide +kernel) (by decide +kernel))
    apply CL_cons
    apply CE_name (by assumption); rfl
    apply CL_nil
    intros; rfl
    rfl
    rfl
    intro cenv KE
    rfl
    apply CS_cons
    apply C1_assign (EnvK.ok (by assumption)) (by rfl) (by rfl) (hs := by rfl)
    apply CE_bin (b := BOp_or)
    apply CE_name (by assumption); rfl
    apply CE_bin (b := BOp_mul)
    apply CE_name (by assumption); rfl
    apply CE_bin (b := BOp_mod)
    apply CE_bin (b := BOp_div)
    apply CE_name (by assumption); rfl
    apply CE_bin (b := BOp_pow)
    apply CE_int
    apply CE_name (by assumption); rfl
    apply CE_int
    apply CS_nil
    intros; rfl
    apply CS_cons
    apply C1_asgA2 (by assumption) (by rfl) (by rfl) (by rfl) (by decide +kernel) (by decide +kernel) (by rfl) (by rfl) (by rfl) (by rfl)
    apply CI_enum2 (Kc.toCok (by assumption)) (by assumption) (by decide +kernel) (Kc.gv (by assumption) (by decide +kernel) (by decide +kernel))
    apply CL_cons
    apply CE_name (by assumption); rfl
    apply CL_nil
    intros; rfl
    rfl
    rfl
    intro cenv KE
    rfl
    intro cenv KE
    apply CTs_one
    apply CB_truth (he := by intros; rfl)
    apply CE.t
    apply CE_bin (b := BOp_mod)
    apply CE_bin (b := BOp_div)
    apply CE_name (by assumption); rfl
    apply CE_bin (b := BOp_pow)
    apply CE_int
    apply CE_name (by assumption); rfl
    apply CE_int
    intro cenv KE
    apply CE_name (by assumption); rfl
    intros; rfl
    apply CS_cons
    apply C1_if
    apply CB_cmp (b := COp_ne)
    apply CE.t
    apply CE_call (Kc.toCok (by assumption)) (by assumption) (by decide +kernel) (by exact Gl_sorted (by assumption))
    apply CL_cons
    apply CE_call (Kc.toCok (by assumption)) (by assumption) (by decide +kernel) (by exact Gl_list2 (by assumption))
    apply CL_cons
    apply CE_call (Kc.toCok (by assumption)) (by assumption) (by decide +kernel) (by exact Gl.up (tr_deduplicate.2 _ (by assumption) (by assumption)) (by decide))
    apply CL_cons
    apply CE_sub2
    apply CE_name (by assumption); rfl
    apply CE_name (by assumption); rfl
    intro cenv KE
    rfl
    apply CL_nil
    intros; rfl
    rfl
    rfl
    intro cenv KE
    rfl
    apply CL_nil
    intros; rfl
    rfl
    rfl
    intro cenv KE
    rfl
    apply CL_nil
    intros; rfl
    rfl
    rfl
    intro cenv KE
    rfl
    apply CE.t
    apply CE_call (Kc.toCok (by assumption)) (by assumption) (by decide +kernel) (by exact Gl_sorted (by assumption))
    apply CL_cons
    apply CE_name (by assumption); rfl
    apply CL_nil
    intros; rfl
    rfl
    rfl
    intro cenv KE
    rfl
    rfl
    apply CS_cons
    apply C1_ret
    apply CE_bool
    apply CS_nil
    apply CS_nil
    apply CS_nil
    intros; rfl
    apply CS_cons
    apply C1_ret
    apply CE_bool
    apply CS_nil
noncomputable def tr_law_over : Σ' F : List PV → Option PV, ∀ c, KA c → Gl c 1 "_law_over" F := by
  refine' ⟨fnF 3 0 _, fun c Ka => ?_⟩
  rotate_left
  have K := Ka.toKc
  have Sp := Ka.sp
  have Kt_ := Ka.kt
  have Kp_ := Ka.kp
  refine' (show Gl c 1 (recK 38).name (fnF 3 0 _) from ?_)
  apply Gl_def K (recK_mem (by decide)) [("found", .own), ("signs", .loc), ("table", .loc)] ["found", "signs", "table"] 0 (by decide +kernel) (by decide +kernel) (by decide +kernel) (by decide +kernel)
  · intro pm cd doc Vs hl
    obtain ⟨_, _, _, rfl⟩ := len3 hl
    rfl
  · intro env KE
    refine' CS_cons _ _
    apply C1_ret
    apply CE_sub2
    apply CE_name (by assumption); rfl
    apply CE_methT SMV_join
    apply CE_str
    apply CE.t
    apply CE_compA1 (by assumption) (by decide +kernel) (by decide +kernel) (by rfl) (by rfl)
    apply CI_val
    apply CE_name (by assumption); rfl
    intro cenv KE
    apply CTs_one
    apply CB_cmp (b := COp_notin)
    apply CT_name (by assumption); rfl
    apply CT_name (by assumption); rfl
    rfl
    intro cenv KE
    apply CE_name (by assumption); rfl
    intros; rfl
    rfl
    rfl
    rfl
    rfl
    intro cenv KE
    rfl
    apply CS_nil
noncomputable def tr_law_back : Σ' F : List PV → Option PV, ∀ c, KA c → Gl c 3 "_law_back" F := by
  refine' ⟨fnF 4 2 _, fun c Ka => ?_⟩
  rotate_left
  have K := Ka.toKc
  have Sp := Ka.sp
  have Kt_ := Ka.kt
  have Kp_ := Ka.kp
  refine' (show Gl c 3 (recK 39).name (fnF 4 2 _) from ?_)
  apply Gl_def K (recK_mem (by decide)) [("table", .loc), ("signs", .loc), ("other", .loc), ("others", .loc), ("choice", .loc), ("over", .loc)] ["table", "signs", "other", "others"] 2 (by decide +kernel) (by decide +kernel) (by decide +kernel) (by decide +kernel)
  · intro pm cd doc Vs hl
    obtain ⟨_, _, _, _, rfl⟩ := len4 hl
    rfl
  · intro env KE
    refine' CS_cons _ _
    apply C1_for1 (EnvK.ok (by assumption)) (by rfl) (by decide)
    apply CI_val
    apply CE_name (by assumption); rfl
    apply CS_cons
    apply C1_assign (EnvK.ok (by assumption)) (by rfl) (by rfl) (hs := by rfl)
    apply CE_call (Kc.toCok (by assumption)) (by assumption) (by decide +kernel) (by exact Gl.up (tr_law_over.2 _ (by assumption)) (by decide))
    apply CL_cons
    apply CE_sub2
    apply CE_name (by assumption); rfl
    apply CE_name (by assumption); rfl
    intro cenv KE
    rfl
    apply CL_cons
    apply CE_name (by assumption); rfl
    apply CL_cons
    apply CE_name (by assumption); rfl
    apply CL_nil
    intros; rfl
    intros; rfl
    intros; rfl
    rfl
    rfl
    intro cenv KE
    rfl
    apply CS_cons
    apply C1_if
    apply CB_not
    apply CB_truth (he := by intros; rfl)
    apply CE.t
    apply CE_call (Kc.toCok (by assumption)) (by assumption) (by decide +kernel) (by exact Gl.up (tr_compare_args_orderless.2 _ (by assumption)) (by decide))
    apply CL_cons
    apply CE_call (Kc.toCok (by assumption)) (by assumption) (by decide +kernel) (by exact Gl.up (tr_law_over.2 _ (by assumption)) (by decide))
    apply CL_cons
    apply CE_name (by assumption); rfl
    apply CL_cons
    apply CE_name (by assumption); rfl
    apply CL_cons
    apply CE_name (by assumption); rfl
    apply CL_nil
    intros; rfl
    intros; rfl
    intros; rfl
    rfl
    rfl
    intro cenv KE
    rfl
    apply CL_cons
    apply CE_sub2
    apply CE_name (by assumption); rfl
    apply CE_name (by assumption); rfl
    intro cenv KE
    rfl
    apply CL_nil
    intros; rfl
    intros; rfl
    rfl
    rfl
    intro cenv KE
    rfl
    apply CS_cons
    apply C1_ret
    apply CE_bool
    apply CS_nil
    apply CS_nil
    apply CS_nil
    intros; rfl
    apply CS_cons
    apply C1_ret
    apply CE_bool
    apply CS_nil
noncomputable def tr_law_known : Σ' F : List PV → Option PV, ∀ c, KA c → Gl c 3 "_law_known" F := by
  refine' ⟨fnF 2 1 _, fun c Ka => ?_⟩
  rotate_left
  have K := Ka.toKc
  have Sp := Ka.sp
  have Kt_ := Ka.kt
  have Kp_ := Ka.kp
  refine' (show Gl c 3 (recK 40).name (fnF 2 1 _) from ?_)
  apply Gl_def K (recK_mem (by decide)) [("found", .loc), ("kinds", .loc), ("kind", .loc)] ["found", "kinds"] 1 (by decide +kernel) (by decide +kernel) (by decide +kernel) (by decide +kernel)
  · intro pm cd doc Vs hl
    obtain ⟨_, _, rfl⟩ := len2 hl
    rfl
  · intro env KE
    refine' CS_cons _ _
    apply C1_for1 (EnvK.ok (by assumption)) (by rfl) (by decide)
    apply CI_val
    apply CE_name (by assumption); rfl
    apply CS_cons
    apply C1_if
    apply CB_truth (he := by intros; rfl)
    apply CE.t
    apply CE_call (Kc.toCok (by assumption)) (by assumption) (by decide +kernel) (by exact Gl.up (tr_compare_args_orderless.2 _ (by assumption)) (by decide))
    apply CL_cons
    apply CE_name (by assumption); rfl
    apply CL_cons
    apply CE_name (by assumption); rfl
    apply CL_nil
    intros; rfl
    intros; rfl
    rfl
    rfl
    intro cenv KE
    rfl
    apply CS_cons
    apply C1_ret
    apply CE_bool
    apply CS_nil
    apply CS_nil
    apply CS_nil
    intros; rfl
    apply CS_cons
    apply C1_ret
    apply CE_bool
    apply CS_nil
noncomputable def tr_law_kinds : Σ' F : List PV → Option PV, ∀ c, KA c → Gl c 4 "_law_kinds" F := by
  refine' ⟨fnF 1 2 _, fun c Ka => ?_⟩
  rotate_left
  have K := Ka.toKc
  have Sp := Ka.sp
  have Kt_ := Ka.kt
  have Kp_ := Ka.kp
  refine' (show Gl c 4 (recK 41).name (fnF 1 2 _) from ?_)
  apply Gl_def K (recK_mem (by decide)) [("table", .loc), ("kinds", .loc), ("choice", .loc)] ["table"] 2 (by decide +kernel) (by decide +kernel) (by decide +kernel) (by decide +kernel)
  · intro pm cd doc Vs hl
    obtain ⟨x, rfl⟩ := List.length_eq_one_iff.mp hl
    rfl
  · intro env KE
    refine' CS_cons _ _
    apply C1_assign (EnvK.ok (by assumption)) (by rfl) (by rfl) (hs := by rfl)
    apply CE_list
    apply CL_nil
    apply CS_cons
    apply C1_for1 (EnvK.ok (by assumption)) (by rfl) (by decide)
    apply CI_val
    apply CE_name (by assumption); rfl
    apply CS_cons
    apply C1_if
    apply CB_not
    apply CB_truth (he := by intros; rfl)
    apply CE.t
    apply CE_call (Kc.toCok (by assumption)) (by assumption) (by decide +kernel) (by exact Gl.up (tr_law_known.2 _ (by assumption)) (by decide))
    apply CL_cons
    apply CE_sub2
    apply CE_name (by assumption); rfl
    apply CE_name (by assumption); rfl
    intro cenv KE
    rfl
    apply CL_cons
    apply CE_name (by assumption); rfl
    apply CL_nil
    intros; rfl
    intros; rfl
    rfl
    rfl
    intro cenv KE
    rfl
    apply CS_cons
    apply C1_assign (EnvK.ok (by assumption)) (by rfl) (by rfl) (hs := by rfl)
    apply CE_bin (b := BOp_add)
    apply CE_list
    apply CL_cons
    apply CE_sub2
    apply CE_name (by assumption); rfl
    apply CE_name (by assumption); rfl
    intro cenv KE
    rfl
    apply CL_nil
    intros; rfl
    apply CE_name (by assumption); rfl
    apply CS_nil
    apply CS_nil
    apply CS_nil
    intros; rfl
    apply CS_cons
    apply C1_ret
    apply CE_callT (Kc.toCok (by assumption)) (by assumption) (by decide +kernel) (GlV_len (by assumption))
    apply CT_name (by assumption); rfl
    rfl
    rfl
    rfl
    apply CS_nil
end

section
noncomputable def dd1 : List Nat → List Nat
  | [] => []
  | x :: r => if r.contains x then dd1 r else x :: dd1 r
noncomputable def spansN (fs : List Nat) : Nat := (fs.foldl (fun l f => dd1 (l ++ l.map (f ||| ·))) [0]).length
noncomputable def spans3 (a b e : Int) : Option PV := if 0 ≤ a ∧ a < 8 ∧ 0 ≤ b ∧ b < 8 ∧ 0 ≤ e ∧ e < 8 then some (.int (spansN [a.toNat, b.toNat, e.toNat])) else none
noncomputable def spansP (args : List PV) : Option PV := (args1 args).bind fun l => (aList l).bind fun l => (args3 l).bind fun p => (aInt p.1).bind fun a => (aInt p.2.1).bind fun b => (aInt p.2.2).bind fun e => spans3 a b e
section
variable {c : Ctx0} {d : Nat} {ns : List (Str × NK)} {env : Env} {Γ : List Slot} {nm : List (Str × NameKind)}
set_option backward.match.sparseCases true in
noncomputable def noswapB (nm : List (Str × NameKind)) (ts : List PySem.Expr) : Bool :=
  (ts.filterMap fun
    | .Name id pos => if nm.lookup id == some .local && pos.line == (ts.head?.map (·.pos.line)).getD 0 then some id else none
    | _ => none).length != ts.length
set_option backward.match.sparseCases true in
theorem swapped_none (K : EnvK ns nm env) {ts vs k tp k2 p} (h : noswapB nm ts = true) : swappedStores [.Tuple ts k tp] (.Tuple vs k2 p) env = pure none := by
  unfold noswapB at h
  unfold swappedStores
  dsimp only
  rw [K.block]
  simp only [K.kinds]
  by_cases c1 : (!(ts.length == 2 || ts.length == 3) || vs.length != ts.length || ScopeKind.function != ScopeKind.function) = true
  · exact if_pos c1
  · refine (if_neg c1).trans ?_
    by_cases c2 : (vs.any fun | .Starred .. => true | _ => false) = true
    · exact if_pos c2
    · refine (if_neg c2).trans (if_pos ?_)
      exact Bool.or_eq_true_iff.mpr (.inl h)
end
set_option maxHeartbeats 8000000
noncomputable def tr_law : Σ' F : List PV → Option PV, ∀ c, KA c → Kd c → Gl c 2 "_law_spans" spansP → Gl c 12 "law" F := by
  refine' ⟨fnF 1 14 _, fun c Ka Kd_ Gs => ?_⟩
  rotate_left
  have K := Ka.toKc
  have Sp := Ka.sp
  have Kt_ := Ka.kt
  have Kp_ := Ka.kp
  refine' (show Gl c 12 (recK 43).name (fnF 1 14 _) from ?_)
  apply Gl_def K (recK_mem (by decide)) [("script", .loc), ("drawn", .loc), ("bits", .own), ("turn", .own), ("pick", .own), ("stride", .own), ("signs", .loc), ("folders", .own), ("names", .own), ("spots", .loc), ("listing", .loc), ("rows", .loc), ("columns", .loc), ("across", .own), ("down", .loc)] ["script"] 14 (by decide +kernel) (by decide +kernel) (by decide +kernel) (by decide +kernel)
  · intro pm cd doc Vs hl
    obtain ⟨x, rfl⟩ := List.length_eq_one_iff.mp hl
    rfl
  · intro env KE
    refine' CS_cons _ _
    apply C1_asgA1 (by assumption) (by rfl) (by rfl) (by rfl) (by decide +kernel) (by decide +kernel) (by rfl) (by rfl)
    apply CI_val
    apply CE_slice
    apply CE_name (by assumption); rfl
    apply CO_none
    apply CO_some
    apply CE_int
    intro cenv KE
    apply CTs_nil
    intro cenv KE
    apply CE_bin (b := BOp_mod)
    apply CE_call (Kc.toCok (by assumption)) (by assumption) (by decide +kernel) (by exact Gl_int (by assumption))
    apply CL_cons
    apply CE_name (by assumption); rfl
    apply CL_nil
    intros; rfl
    rfl
    rfl
    intro cenv KE
    rfl
    apply CE_bin (b := BOp_pow)
    apply CE_int
    apply CE_int
    intros; rfl
    apply CS_cons
    apply C1_tup_plain (EnvK.ok (by assumption)) ["bits", "turn", "pick"] [2, 3, 4] (ha := ⟨[_, _, _], rfl, rfl⟩)
    apply CE_bin (b := BOp_add)
    apply CE_name (by assumption); rfl
    apply CE_slice
    apply CE_list
    apply CL_cons
    apply CE_int
    apply CL_cons
    apply CE_int
    apply CL_cons
    apply CE_int
    apply CL_nil
    intros; rfl
    intros; rfl
    intros; rfl
    apply CO_some
    apply CE_callT (Kc.toCok (by assumption)) (by assumption) (by decide +kernel) (GlV_len (by assumption))
    apply CT_name (by assumption); rfl
    rfl
    rfl
    rfl
    apply CO_none
    rfl
    rfl
    rfl
    apply CS_cons
    apply C1_assign (EnvK.ok (by assumption)) (by rfl) (by rfl) (hs := by rfl)
    apply CE_sub2
    apply CE_list
    apply CL_cons
    apply CE_int
    apply CL_cons
    apply CE_int
    apply CL_cons
    apply CE_int
    apply CL_cons
    apply CE_int
    apply CL_nil
    intros; rfl
    intros; rfl
    intros; rfl
    intros; rfl
    apply CE_bin (b := BOp_mod)
    apply CE_bin (b := BOp_div)
    apply CE_name (by assumption); rfl
    apply CE_int
    apply CE_int
    intro cenv KE
    rfl
    apply CS_cons
    apply C1_asgA1 (by assumption) (by rfl) (by rfl) (by rfl) (by decide +kernel) (by decide +kernel) (by rfl) (by rfl)
    apply CI_range (Kc.toCok (by assumption)) (by assumption) (by decide +kernel) (Kc.gv (by assumption) (by decide +kernel) (by decide +kernel))
    apply CL_cons
    apply CE_int
    apply CL_nil
    intros; rfl
    rfl
    rfl
    intro cenv KE
    rfl
    intro cenv KE
    apply CTs_nil
    intro cenv KE
    apply CE_sub2
    apply CE_str
    apply CE_bin (b := BOp_mod)
    apply CE_bin (b := BOp_add)
    apply CE_name (by assumption); rfl
    apply CE_bin (b := BOp_mul)
    apply CE_name (by assumption); rfl
    apply CE_name (by assumption); rfl
    apply CE_int
    intro cenv KE
    rfl
    intros; rfl
    apply CS_cons
    apply C1_tup_plain (EnvK.ok (by assumption)) ["folders", "names"] [7, 8] (hw := by exact swapped_none (by assumption) (by decide +kernel)) (ha := ⟨[_, _], rfl, rfl⟩)
    apply CE_tuple
    apply CL_cons
    apply CE_slice
    apply CE_name (by assumption); rfl
    apply CO_none
    apply CO_some
    apply CE_int
    apply CL_cons
    apply CE_slice
    apply CE_name (by assumption); rfl
    apply CO_some
    apply CE_int
    apply CO_none
    apply CL_nil
    intros; rfl
    intros; rfl
    rfl
    rfl
    apply CS_cons
    apply C1_asgA1 (by assumption) (by rfl) (by rfl) (by rfl) (by decide +kernel) (by decide +kernel) (by rfl) (by rfl)
    apply CI_range (Kc.toCok (by assumption)) (by assumption) (by decide +kernel) (Kc.gv (by assumption) (by decide +kernel) (by decide +kernel))
    apply CL_cons
    apply CE_int
    apply CL_nil
    intros; rfl
    rfl
    rfl
    intro cenv KE
    rfl
    intro cenv KE
    apply CTs_nil
    intro cenv KE
    apply CE_bin (b := BOp_mod)
    apply CE_bin (b := BOp_add)
    apply CE_name (by assumption); rfl
    apply CE_bin (b := BOp_mul)
    apply CE_sub2
    apply CE_list
    apply CL_cons
    apply CE_int
    apply CL_cons
    apply CE_int
    apply CL_cons
    apply CE_int
    apply CL_cons
    apply CE_int
    apply CL_nil
    intros; rfl
    intros; rfl
    intros; rfl
    intros; rfl
    apply CE_bin (b := BOp_mod)
    apply CE_bin (b := BOp_div)
    apply CE_name (by assumption); rfl
    apply CE_int
    apply CE_int
    intro cenv KE
    rfl
    apply CE_name (by assumption); rfl
    apply CE_int
    intros; rfl
    apply CS_cons
    apply C1_asgA1 (by assumption) (by rfl) (by rfl) (by rfl) (by decide +kernel) (by decide +kernel) (by rfl) (by rfl)
    apply CI_val
    apply CE_name (by assumption); rfl
    intro cenv KE
    apply CTs_one
    apply CB_truth (he := by intros; rfl)
    apply CE.t
    apply CE_bin (b := BOp_mod)
    apply CE_bin (b := BOp_div)
    apply CE_name (by assumption); rfl
    apply CE_bin (b := BOp_pow)
    apply CE_int
    apply CE_name (by assumption); rfl
    apply CE_int
    intro cenv KE
    apply CE_call (Kc.toCok (by assumption)) (by assumption) (by decide +kernel) (by exact Gl.up (tr_join.2 _ (by assumption)) (by decide))
    apply CL_cons
    apply CE_str
    apply CL_cons
    apply CE_sub2
    apply CE_name (by assumption); rfl
    apply CE_bin (b := BOp_div)
    apply CE_name (by assumption); rfl
    apply CE_int
    intro cenv KE
    rfl
    apply CL_cons
    apply CE_sub2
    apply CE_name (by assumption); rfl
    apply CE_bin (b := BOp_mod)
    apply CE_name (by assumption); rfl
    apply CE_int
    intro cenv KE
    rfl
    apply CL_nil
    intros; rfl
    intros; rfl
    intros; rfl
    rfl
    rfl
    intro cenv KE
    rfl
    intros; rfl
    apply CS_cons
    apply C1_assign (EnvK.ok (by assumption)) (by rfl) (by rfl) (hs := by rfl)
    apply CE_call (Kc.toCok (by assumption)) (by assumption) (by decide +kernel) (by exact Gl.up (tr_law_rows.2 _ (by assumption)) (by decide))
    apply CL_cons
    apply CE_name (by assumption); rfl
    apply CL_cons
    apply CE_name (by assumption); rfl
    apply CL_cons
    apply CE_bin (b := BOp_div)
    apply CE_name (by assumption); rfl
    apply CE_int
    apply CL_nil
    intros; rfl
    intros; rfl
    intros; rfl
    rfl
    rfl
    intro cenv KE
    rfl
    apply CS_cons
    apply C1_assign (EnvK.ok (by assumption)) (by rfl) (by rfl) (hs := by rfl)
    apply CE_call (Kc.toCok (by assumption)) (by assumption) (by decide +kernel) (by exact Gl.up (tr_law_columns.2 _ (by assumption)) (by decide))
    apply CL_cons
    apply CE_name (by assumption); rfl
    apply CL_cons
    apply CE_name (by assumption); rfl
    apply CL_cons
    apply CE_bin (b := BOp_div)
    apply CE_name (by assumption); rfl
    apply CE_int
    apply CL_nil
    intros; rfl
    intros; rfl
    intros; rfl
    rfl
    rfl
    intro cenv KE
    rfl
    apply CS_cons
    apply C1_assignC (by assumption) (by rfl) (by rfl) (by rfl)
    apply CE_compA1 (by assumption) (by decide +kernel) (by decide +kernel) (by rfl) (by rfl)
    apply CI_range (Kc.toCok (by assumption)) (by assumption) (by decide +kernel) (Kc.gv (by assumption) (by decide +kernel) (by decide +kernel))
    apply CL_cons
    apply CE_int
    apply CL_nil
    intros; rfl
    rfl
    rfl
    intro cenv KE
    rfl
    intro cenv KE
    apply CTs_nil
    intro cenv KE
    apply CE_bin (b := BOp_mod)
    apply CE_bin (b := BOp_div)
    apply CE_name (by assumption); rfl
    apply CE_bin (b := BOp_pow)
    apply CE_int
    apply CE_name (by assumption); rfl
    apply CE_int
    intros; rfl
    apply CS_cons
    apply C1_asgA1 (by assumption) (by rfl) (by rfl) (by rfl) (by decide +kernel) (by decide +kernel) (by rfl) (by rfl)
    apply CI_range (Kc.toCok (by assumption)) (by assumption) (by decide +kernel) (Kc.gv (by assumption) (by decide +kernel) (by decide +kernel))
    apply CL_cons
    apply CE_int
    apply CL_nil
    intros; rfl
    rfl
    rfl
    intro cenv KE
    rfl
    intro cenv KE
    apply CTs_nil
    intro cenv KE
    apply CE_call (Kc.toCok (by assumption)) (by assumption) (by decide +kernel) (by exact Gl_sum (by assumption))
    apply CL_cons
    apply CE_compA2 (by assumption) (by decide +kernel) (by decide +kernel) (by rfl) (by rfl) (by rfl) (by rfl)
    apply CI_enum2 (Kc.toCok (by assumption)) (by assumption) (by decide +kernel) (Kc.gv (by assumption) (by decide +kernel) (by decide +kernel))
    apply CL_cons
    apply CE_name (by assumption); rfl
    apply CL_nil
    intros; rfl
    rfl
    rfl
    intro cenv KE
    rfl
    intro cenv KE
    apply CTs_nil
    intro cenv KE
    apply CE_bin (b := BOp_mul)
    apply CE_bin (b := BOp_mod)
    apply CE_bin (b := BOp_div)
    apply CE_name (by assumption); rfl
    apply CE_bin (b := BOp_pow)
    apply CE_int
    apply CE_name (by assumption); rfl
    apply CE_int
    apply CE_bin (b := BOp_pow)
    apply CE_int
    apply CE_name (by assumption); rfl
    intros; rfl
    apply CL_nil
    intros; rfl
    rfl
    rfl
    intro cenv KE
    rfl
    intros; rfl
    apply CS_cons
    apply C1_if
    apply CB_or
    apply CB_not
    apply CB_truth (he := by intros; rfl)
    apply CE.t
    apply CE_call (Kc.toCok (by assumption)) (by assumption) (by decide +kernel) (by exact Gl.up (tr_law_right.2 _ (by assumption) (by assumption)) (by decide))
    apply CL_cons
    apply CE_name (by assumption); rfl
    apply CL_cons
    apply CE_name (by assumption); rfl
    apply CL_cons
    apply CE_name (by assumption); rfl
    apply CL_nil
    intros; rfl
    intros; rfl
    intros; rfl
    rfl
    rfl
    intro cenv KE
    rfl
    apply CB_not
    apply CB_truth (he := by intros; rfl)
    apply CE.t
    apply CE_call (Kc.toCok (by assumption)) (by assumption) (by decide +kernel) (by exact Gl.up (tr_law_right.2 _ (by assumption) (by assumption)) (by decide))
    apply CL_cons
    apply CE_name (by assumption); rfl
    apply CL_cons
    apply CE_name (by assumption); rfl
    apply CL_cons
    apply CE_name (by assumption); rfl
    apply CL_nil
    intros; rfl
    intros; rfl
    intros; rfl
    rfl
    rfl
    intro cenv KE
    rfl
    apply CS_cons
    apply C1_ret
    apply CE_bool
    apply CS_nil
    apply CS_nil
    apply CS_cons
    apply C1_if
    apply CB_or
    apply CB_not
    apply CB_truth (he := by intros; rfl)
    apply CE.t
    apply CE_call (Kc.toCok (by assumption)) (by assumption) (by decide +kernel) (by exact Gl.up (tr_law_back.2 _ (by assumption)) (by decide))
    apply CL_cons
    apply CE_name (by assumption); rfl
    apply CL_cons
    apply CE_name (by assumption); rfl
    apply CL_cons
    apply CE_name (by assumption); rfl
    apply CL_cons
    apply CE_name (by assumption); rfl
    apply CL_nil
    intros; rfl
    intros; rfl
    intros; rfl
    intros; rfl
    rfl
    rfl
    intro cenv KE
    rfl
    apply CB_not
    apply CB_truth (he := by intros; rfl)
    apply CE.t
    apply CE_call (Kc.toCok (by assumption)) (by assumption) (by decide +kernel) (by exact Gl.up (tr_law_back.2 _ (by assumption)) (by decide))
    apply CL_cons
    apply CE_name (by assumption); rfl
    apply CL_cons
    apply CE_name (by assumption); rfl
    apply CL_cons
    apply CE_name (by assumption); rfl
    apply CL_cons
    apply CE_name (by assumption); rfl
    apply CL_nil
    intros; rfl
    intros; rfl
    intros; rfl
    intros; rfl
    rfl
    rfl
    intro cenv KE
    rfl
    apply CS_cons
    apply C1_ret
    apply CE_bool
    apply CS_nil
    apply CS_nil
    apply CS_cons
    apply C1_ret
    apply CE_chain2 (o1 := COp_eq) (o2 := COp_eq)
    apply CE_call (Kc.toCok (by assumption)) (by assumption) (by decide +kernel) (by exact Gl.up (tr_law_kinds.2 _ (by assumption)) (by decide))
    apply CL_cons
    apply CE_name (by assumption); rfl
    apply CL_nil
    intros; rfl
    rfl
    rfl
    intro cenv KE
    rfl
    apply CE_call (Kc.toCok (by assumption)) (by assumption) (by decide +kernel) (by exact Gl.up (tr_law_kinds.2 _ (by assumption)) (by decide))
    apply CL_cons
    apply CE_name (by assumption); rfl
    apply CL_nil
    intros; rfl
    rfl
    rfl
    intro cenv KE
    rfl
    apply CE_call (Kc.toCok (by assumption)) (by assumption) (by decide +kernel) (by exact Gl.up (by assumption) (by decide))
    apply CL_cons
    apply CE_name (by assumption); rfl
    apply CL_nil
    intros; rfl
    rfl
    rfl
    intro cenv KE
    rfl
    rfl
    apply CS_nil
end

section
noncomputable def hsOf (S : List Nat) : Array Int := (S.map fun k : Nat => (k : Int)).toArray
theorem bitsL_mem {b k : Nat} : k ∈ bitsL b ↔ k < 8 ∧ b.testBit k = true := by
  unfold bitsL
  rw [List.mem_filter, List.mem_range]
theorem bitsL_nodup (b : Nat) : (bitsL b).Nodup := List.Nodup.sublist List.filter_sublist List.nodup_range
theorem free_hit {m : Nat} {owner : Array (Option Nat)} {f i p : Nat} (h : owner.getD i (some 0) = none) : SetTable.layClean.free m owner (f + 1) i p = some i := by
  unfold SetTable.layClean.free
  have hn : ∃ n, SetTable.runEnd m i + 1 - i = n + 1 := ⟨SetTable.runEnd m i - i, by unfold SetTable.runEnd; split <;> omega⟩
  obtain ⟨n, hn⟩ := hn
  rw [hn, List.range_succ_eq_map, List.find?_cons]
  simp only [Nat.add_zero, h, Option.isNone_none]
theorem bits_small {k : Nat} (h : k < 8) : SetTable.bits (k : Int) = k := by
  unfold SetTable.bits
  rw [Int.emod_eq_of_lt (by omega) (by omega)]
  simp
noncomputable def layStep (m : Nat) (acc : Option (Array (Option Nat) × Nat)) (h : Int) : Option (Array (Option Nat) × Nat) := do
  let (owner, k) ← acc
  let j ← SetTable.layClean.free m owner (SetTable.turns m) (SetTable.bits h % (m + 1)) (SetTable.bits h)
  pure (owner.setIfInBounds j (some k), k + 1)
theorem lay_list {m : Nat} (hm : 7 ≤ m) : ∀ (S : List Nat) (owner : Array (Option Nat)) (k : Nat), owner.size = m + 1 → S.Nodup → (∀ x ∈ S, x < 8 ∧ owner[x]? = some none) →
    ∃ owner', (S.map fun k : Nat => (k : Int)).foldl (layStep m) (some (owner, k)) = some (owner', k + S.length) ∧ owner'.size = m + 1 ∧ ∀ j, owner'[j]? = if S.contains j then some (some (k + S.idxOf j)) else owner[j]?
  | [], owner, k, hs, _, _ => ⟨owner, rfl, hs, fun j => by simp⟩
  | x :: S, owner, k, hs, nd, hx => by
    obtain ⟨n1, n2⟩ := List.nodup_cons.mp nd
    obtain ⟨h8, hn⟩ := hx x List.mem_cons_self
    have hb : SetTable.bits (x : Int) % (m + 1) = x := by rw [bits_small h8]; exact Nat.mod_eq_of_lt (by omega)
    have e : layStep m (some (owner, k)) (x : Int) = some (owner.setIfInBounds x (some k), k + 1) := by
      show (SetTable.layClean.free m owner (SetTable.turns m) (SetTable.bits x % (m + 1)) (SetTable.bits x)).bind _ = _
      rw [hb, show SetTable.turns m = (m + 14) + 1 from rfl, free_hit (by rw [Array.getD_eq_getD_getElem?, hn]; rfl)]
      rfl
    obtain ⟨o', e1, e2, e3⟩ := lay_list hm S (owner.setIfInBounds x (some k)) (k + 1) (by simpa using hs) n2 (fun y hy => by
      obtain ⟨y1, y2⟩ := hx y (List.mem_cons_of_mem _ hy)
      refine ⟨y1, ?_⟩
      have ne : x ≠ y := fun q => n1 (by rw [q]; exact hy)
      rw [Array.getElem?_setIfInBounds, if_neg ne]
      exact y2)
    refine ⟨o', ?_, e2, fun j => ?_⟩
    · rw [List.map_cons, List.foldl_cons, e, e1, List.length_cons]
      congr 2; omega
    · rw [e3 j]
      by_cases hj : j = x
      · subst hj
        have : S.contains j = false := by simpa using n1
        rw [this, if_neg Bool.false_ne_true, Array.getElem?_setIfInBounds, if_pos rfl, if_pos (by omega)]
        simp
      · have hb : (x == j) = false := by simpa using fun q => hj q.symm
        rw [List.contains_cons, show (j == x) = false by simpa using hj, Bool.false_or]
        split
        · rename_i hc
          rw [List.idxOf_cons, hb]
          congr 2
          simp only [cond_false]; omega
        · rw [Array.getElem?_setIfInBounds, if_neg (fun q => hj q.symm)]
theorem live_list (m : Nat) (hm : 7 ≤ m) (b : Nat) (hb : b < 256) (g : Nat → Option Nat) (hg : ∀ j, g j = if (bitsL b).contains j then some ((bitsL b).idxOf j) else none) :
    (List.range (m + 1)).filterMap (fun j => (g j).map (j, ·)) = (bitsL b).zip (List.range (bitsL b).length) := by
  have e : m + 1 = 8 + (m - 7) := by omega
  rw [e, List.range_add, List.filterMap_append]
  have h2 : ((List.range (m - 7)).map (8 + ·)).filterMap (fun j => (g j).map (j, ·)) = [] := by
    rw [List.filterMap_eq_nil_iff]
    intro j hj
    obtain ⟨i, _, rfl⟩ := List.mem_map.mp hj
    have nc : ¬ (bitsL b).contains (8 + i) = true := fun q => by
      have := (bitsL_mem.mp (by simpa using q : 8 + i ∈ bitsL b)).1
      omega
    rw [hg, if_neg nc]; rfl
  rw [h2, List.append_nil]
  have key : ∀ b < 256, (List.range 8).filterMap (fun j => (if (bitsL b).contains j then some ((bitsL b).idxOf j) else none).map (j, ·)) = (bitsL b).zip (List.range (bitsL b).length) := by decide +kernel
  rw [← key b hb]
  congr 1; funext j; rw [hg]
theorem laid_eq {m : Nat} (hm : 7 ≤ m) {b : Nat} (hb : b < 256) (f mv : Nat) (led plain : Bool) :
    SetTable.laid m f mv led plain (hsOf (bitsL b)) = some ({ mask := m, place := (bitsL b).toArray, dummies := #[], finger := f, led := led, moves := mv, plain := plain }, (List.range (bitsL b).length).toArray) := by
  obtain ⟨o', e1, e2, e3⟩ := lay_list hm (bitsL b) (Array.replicate (m + 1) none) 0 (by simp) (bitsL_nodup b) (fun x hx => by
    refine ⟨(bitsL_mem.mp hx).1, ?_⟩
    rw [Array.getElem?_replicate, if_pos (by have := (bitsL_mem.mp hx).1; omega)])
  have el : SetTable.layClean m (hsOf (bitsL b)) = some o' := by
    unfold SetTable.layClean hsOf
    rw [List.foldl_toArray']
    · show Option.map _ (List.foldl (layStep m) _ _) = _
      rw [e1]; rfl
    · rfl
  unfold SetTable.laid
  rw [el]
  have lv := live_list m hm b hb (fun j => o'.getD j none) (fun j => by
    rw [Array.getD_eq_getD_getElem?, e3 j]
    split
    · simp
    · rw [Array.getElem?_replicate]; split <;> rfl)
  show some (_, _) = _
  rw [lv]
  have z1 : ((bitsL b).zip (List.range (bitsL b).length)).map (·.1) = bitsL b := by rw [List.map_fst_zip]; simp
  have z2 : ((bitsL b).zip (List.range (bitsL b).length)).map (·.2) = List.range (bitsL b).length := by rw [List.map_snd_zip]; simp
  rw [z1, z2]
end

section
theorem fact_put : ∀ b < 256, ∀ k < 8, if b.testBit k then ((bitsL b).toArray[SetTable.below (bitsL b).toArray k]? == some k) = true ∧ b ||| 2 ^ k = b
    else ((bitsL b).toArray[SetTable.below (bitsL b).toArray k]? == some k) = false ∧ SetTable.insertAt (bitsL b).toArray (SetTable.below (bitsL b).toArray k) k = (bitsL (b ||| 2 ^ k)).toArray ∧ (bitsL (b ||| 2 ^ k)).length = (bitsL b).length + 1 ∧ b ||| 2 ^ k < 256 := by decide +kernel
theorem bitsL_len (b : Nat) : (bitsL b).length ≤ 8 := by
  have : (bitsL b).length ≤ (List.range 8).length := List.length_filter_le ..
  rwa [List.length_range] at this
theorem insertAt_map {α β : Type} (f : α → β) (xs : Array α) (p : Nat) (x : α) : SetTable.insertAt (xs.map f) p (f x) = (SetTable.insertAt xs p x).map f := by
  unfold SetTable.insertAt
  simp [Array.map_append, Array.map_push, Array.map_extract]
theorem esOf_eq (S : List Nat) (tk : Nat → Nat) : esOf S tk = S.toArray.map fun k : Nat => ((k : Int), Value.int (k : Int) (tk k)) := by
  unfold esOf; simp
theorem esOf_size (S : List Nat) (tk : Nat → Nat) : (esOf S tk).size = S.length := by simp [esOf]
theorem esOf_toList (S : List Nat) (tk : Nat → Nat) : (esOf S tk).toList = S.map fun k : Nat => ((k : Int), Value.int (k : Int) (tk k)) := rfl
theorem esOf_insert {b k : Nat} (hb : b < 256) (hk : k < 8) (h : b.testBit k = false) (tk : Nat → Nat) (t : Nat) :
    SetTable.insertAt (esOf (bitsL b) tk) (SetTable.below (bitsL b).toArray k) ((k : Int), Value.int (k : Int) t) = esOf (bitsL (b ||| 2 ^ k)) (fun j => if j = k then t else tk j) := by
  have f := fact_put b hb k hk
  rw [h, if_neg Bool.false_ne_true] at f
  rw [esOf_eq (bitsL (b ||| 2 ^ k)), ← f.2.1, ← insertAt_map, if_pos rfl]
  congr 1
  rw [List.map_toArray]
  refine congrArg List.toArray (List.map_congr_left fun j hj => ?_)
  have ne : j ≠ k := fun q => by
    subst q
    rw [(bitsL_mem.mp hj).2] at h
    cases h
  rw [if_neg ne]
theorem esOf_hashes (S : List Nat) (tk : Nat → Nat) : (esOf S tk).map (·.1) = hsOf S := by
  unfold esOf hsOf; simp
theorem has_nil (j : Nat) : SetTable.has #[] j = false := rfl
theorem tb_slot {b m mv k : Nat} {led : Bool} (hb : b < 256) (hk : k < 8) (h : b.testBit k = false) : (tbOf (bitsL b) m led mv).slot k = .empty := by
  have f := fact_put b hb k hk
  rw [h, if_neg Bool.false_ne_true] at f
  unfold SetTable.slot
  show (if ((bitsL b).toArray[SetTable.below (bitsL b).toArray k]? == some k) = true then _ else if SetTable.has #[] k = true then _ else _) = _
  rw [f.1, if_neg Bool.false_ne_true, has_nil, if_neg Bool.false_ne_true]
theorem tb_free {b m mv k : Nat} {led : Bool} (hm : 7 ≤ m) (hb : b < 256) (hk : k < 8) (h : b.testBit k = false) : (tbOf (bitsL b) m led mv).freeSlot (k : Int) = some (k, false) := by
  unfold SetTable.freeSlot SetTable.probe
  have hp : (tbOf (bitsL b) m led mv).probeStart (k : Int) = { j := k, more := SetTable.runEnd m k - k, i := k, perturb := k, dummy := none } := by
    unfold SetTable.probeStart
    rw [bits_small hk, show k % ((tbOf (bitsL b) m led mv).mask + 1) = k from Nat.mod_eq_of_lt (by show k < m + 1; omega)]
  rw [hp, show 10 * SetTable.turns (tbOf (bitsL b) m led mv).mask = (10 * m + 149) + 1 by unfold SetTable.turns; show 10 * (m + 15) = _; omega]
  unfold SetTable.probe.go
  dsimp only
  rw [tb_slot hb hk h]
  rfl
theorem tb_fits {b m mv : Nat} {led : Bool} (h : (bitsL b).length ≤ m) (tk : Nat → Nat) : (tbOf (bitsL b) m led mv).fits (esOf (bitsL b) tk).size = true := by
  unfold SetTable.fits SetTable.fill
  rw [esOf_size]
  show (((bitsL b).toArray.size == (bitsL b).length) && decide ((bitsL b).toArray.size + 0 ≤ m)) = true
  simp [h]
theorem MaskOk.ge {m b : Nat} (h : MaskOk m b) : 7 ≤ m := by
  rcases h with ⟨rfl, _⟩ | rfl | rfl | rfl <;> decide
theorem MaskOk.len {m b : Nat} (h : MaskOk m b) : (bitsL b).length ≤ m := by
  have := bitsL_len b
  rcases h with ⟨rfl, h⟩ | rfl | rfl | rfl <;> omega
theorem lay_eq {b m mv k t : Nat} {led : Bool} (hm : 7 ≤ m) (hb : b < 256) (hk : k < 8) (h : b.testBit k = false) (hl : (bitsL b).length + 1 ≤ m) (tk : Nat → Nat) :
    layNew (tbOf (bitsL b) m led mv) (esOf (bitsL b) tk) (k : Int) (.int k t) = (esOf (bitsL (b ||| 2 ^ k)) (fun j => if j = k then t else tk j), tbOf (bitsL (b ||| 2 ^ k)) m led mv, false, false) := by
  unfold layNew
  rw [tb_free hm hb hk h]
  have f := fact_put b hb k hk
  rw [h, if_neg Bool.false_ne_true] at f
  have hp : (tbOf (bitsL b) m led mv).put k = (tbOf (bitsL (b ||| 2 ^ k)) m led mv, SetTable.below (bitsL b).toArray k) := by
    unfold SetTable.put
    show (({ mask := m, place := SetTable.insertAt (bitsL b).toArray (SetTable.below (bitsL b).toArray k) k, dummies := if SetTable.has #[] k = true then SetTable.eraseAt #[] (SetTable.below #[] k) else #[], finger := 0, led := led, moves := mv, plain := true } : SetTable), SetTable.below (bitsL b).toArray k) = _
    rw [f.2.1, has_nil]; rfl
  dsimp only
  rw [hp]
  dsimp only
  rw [esOf_insert hb hk h]
  have hf : (tbOf (bitsL (b ||| 2 ^ k)) m led mv).fits (esOf (bitsL (b ||| 2 ^ k)) (fun j => if j = k then t else tk j)).size = true := tb_fits (by omega) _
  unfold SetTable.orStandIn
  rw [hf]; rfl
theorem list_range {α : Type} : ∀ (l : List α), (List.range l.length).filterMap (fun i => l[i]?) = l
  | [] => rfl
  | x :: r => by
    rw [List.length_cons, List.range_succ_eq_map, List.filterMap_cons]
    simp only [List.getElem?_cons_zero, List.filterMap_map]
    congr 1
    exact list_range r
theorem all_range (es : Array (Int × Value)) : (List.range es.size).toArray.filterMap (fun i => es[i]?) = es := by
  apply Array.toList_inj.mp
  rw [Array.toList_filterMap]
  have h2 := list_range es.toList
  simp only [Array.length_toList, Array.getElem?_toList] at h2
  exact h2
theorem relay_eq {b m mv w' : Nat} {led : Bool} (hb : b < 256) (hm : 7 ≤ SetTable.sizeAbove w' - 1) (hl : (bitsL b).length ≤ SetTable.sizeAbove w' - 1) (tk : Nat → Nat) :
    relayAll (tbOf (bitsL b) m led mv) (esOf (bitsL b) tk) w' = (esOf (bitsL b) tk, tbOf (bitsL b) (SetTable.sizeAbove w' - 1) led ((tbOf (bitsL b) m led mv).movedTo (SetTable.sizeAbove w' - 1)), false) := by
  unfold relayAll SetTable.relaid
  rw [esOf_hashes, laid_eq hm hb]
  dsimp only
  have e1 : (List.range (bitsL b).length).toArray.filterMap (fun i => (esOf (bitsL b) tk)[i]?) = esOf (bitsL b) tk := by
    have := all_range (esOf (bitsL b) tk)
    rwa [esOf_size] at this
  rw [e1]
  have e2 : coversAll (List.range (bitsL b).length).toArray (esOf (bitsL b) tk).size = true := by
    unfold coversAll
    rw [esOf_size]
    exact List.isPerm_iff.mpr (List.Perm.refl _)
  rw [e2, Bool.true_and, show ({ mask := SetTable.sizeAbove w' - 1, place := (bitsL b).toArray, dummies := #[], finger := (tbOf (bitsL b) m led mv).finger, led := (tbOf (bitsL b) m led mv).led, moves := (tbOf (bitsL b) m led mv).movedTo (SetTable.sizeAbove w' - 1), plain := (tbOf (bitsL b) m led mv).plain } : SetTable) = tbOf (bitsL b) (SetTable.sizeAbove w' - 1) led ((tbOf (bitsL b) m led mv).movedTo (SetTable.sizeAbove w' - 1)) from rfl, tb_fits hl, if_pos rfl]
end

section
section
variable {w : World} {A : Around} {E : Value → Shared → Prop} {s : Shared} {a : Addr} {o : Obj} {b : Nat}
noncomputable abbrev iK (w : World) := PySem.intKind Pw w
theorem hash_small {k : Nat} (h : k < 8) : hashInt (k : Int) = (k : Int) := by
  have : ∀ k : Nat, k < 8 → hashInt (k : Int) = (k : Int) := by decide +kernel
  exact this k h
theorem esOf_elems {b : Nat} (tk : Nat → Nat) : ElemsOf (iK w) (esOf (bitsL b) tk).toList := by
  intro e he
  rw [esOf_toList] at he
  obtain ⟨k, hk, rfl⟩ := List.mem_map.mp he
  exact ⟨⟨(k : Int), PySem.intKind_is _ _ _ _, (hash_small (bitsL_mem.mp hk).1).symm⟩, rfl⟩
theorem iset_fits {m mv : Nat} {led : Bool} (h : MaskOk m b) (tk : Nat → Nat) : (tbOf (bitsL b) m led mv).fits (esOf (bitsL b) tk).size = true := tb_fits h.len tk
theorem esOf_small (tk : Nat → Nat) : (esOf (bitsL b) tk).size ≤ sizeLine := by
  rw [esOf_size]
  exact Nat.le_trans (bitsL_len b) (by decide +kernel)
theorem esOf_scan (tk : Nat → Nat) : (esOf (bitsL b) tk).size < scanBound := by
  rw [esOf_size]
  exact Nat.lt_of_le_of_lt (bitsL_len b) (by decide +kernel)
theorem find_there (tk : Nat → Nat) {k : Nat} (hk : k < 8) (h : b.testBit k = true) : ∃ j, (esOf (bitsL b) tk).toList.findIdx? (fun e => (iK w).is (k : Int) e.2) = some j := by
  cases e : (esOf (bitsL b) tk).toList.findIdx? (fun e => (iK w).is (k : Int) e.2) with
  | some j => exact ⟨j, rfl⟩
  | none =>
    have := List.findIdx?_eq_none_iff.mp e ((k : Int), .int (k : Int) (tk k)) (by rw [esOf_toList]; exact List.mem_map.mpr ⟨k, bitsL_mem.mpr ⟨hk, h⟩, rfl⟩)
    rw [show (iK w).is (k : Int) (Value.int (k : Int) (tk k)) = true from PySem.intKind_is _ _ _ _] at this
    cases this
theorem find_not (tk : Nat → Nat) {k : Nat} (h : b.testBit k = false) : (esOf (bitsL b) tk).toList.findIdx? (fun e => (iK w).is (k : Int) e.2) = none := by
  refine List.findIdx?_eq_none_iff.mpr fun e he => ?_
  rw [esOf_toList] at he
  obtain ⟨j, hj, rfl⟩ := List.mem_map.mp he
  cases q : (iK w).is (k : Int) (Value.int (j : Int) (tk j)) with
  | false => rfl
  | true =>
    have := (iK w).inj (Value.int (j : Int) (tk j)) (j : Int) (k : Int) (PySem.intKind_is _ _ _ _) q
    have e : j = k := by omega
    subst e
    rw [(bitsL_mem.mp hj).2] at h
    cases h
theorem put_at {es : Array (Int × Value)} {ep : Nat} {t : SetTable} (ho : s.heap.get? a = some o) (hd : o.data = .set es ep t) (es' : Array (Int × Value)) (t' : SetTable) :
    (s.heap.update a (Obj.putSet es' t')).get? a = some { o with data := .set es' (ep + 1) t' } := by
  have := Heap.get?_update_self (Obj.putSet es' t') ho (by rw [putSet_of es' t' hd]; rfl)
  rw [putSet_of es' t' hd] at this; exact this
theorem iset_add {Q : Bool → Shared → Prop} (ho : s.heap.get? a = some o) (hi : IsetO w o b) {k t : Nat} (hk : k < 8)
    (h : ∀ h' o', Heap.SameBut a s.heap h' → h'.get? a = some o' → IsetO w o' (b ||| 2 ^ k) → Q (!b.testBit k) { s with heap := h' }) :
    wpAny (model Pw w) A (setAddHashed a (.int (k : Int) t) (k : Int)) Q E s := by
  obtain ⟨hb, hex, ep, tk, m, mv, hd, hm⟩ := hi
  have hf := iset_fits (led := ledOf w) (mv := mv) hm tk
  have fp := fact_put b hb k hk
  unfold setAddHashed setAddHashedIn
  refine wpAny_holding (wpAny_bind (wpAny_setState_of ho hd hf ?_))
  dsimp only
  rw [byScan_of (knd := iK w) rfl (esOf_scan tk) (esOf_elems tk)]
  simp only [↓reduceIte]
  unfold setAddByScan
  refine wpAny_bind ?_
  refine wpAny_bind (wpAny_rule ?_)
  have hsc := fun (Q : ScanMet → Shared → Prop) => wpAny_setScan_of (knd := iK w) (A := A) (E := E) (s := s) (k := (k : Int)) (x := .int (k : Int) t) (adding := true) (Q := Q) (PySem.intKind_is _ _ _ _) ho hd hf (esOf_elems tk)
  rw [show (iK w).hash (k : Int) = (k : Int) from hash_small hk] at hsc
  refine wpAny_bind (hsc _ ?_)
  cases hr : b.testBit k with
  | true =>
    rw [hr, if_pos rfl] at fp
    obtain ⟨j, hj⟩ := find_there (w := w) tk hk hr
    rw [hj]
    dsimp only
    refine wpAny_pure (wpAny_pure ?_)
    have := h s.heap o (Heap.SameBut.refl a s.heap) ho (by rw [fp.2]; exact ⟨hb, hex, ep, tk, m, mv, hd, hm⟩)
    rw [hr] at this
    exact this
  | false =>
    rw [hr, if_neg Bool.false_ne_true] at fp
    rw [find_not (w := w) tk hr]
    dsimp only
    have hl1 : (bitsL b).length + 1 ≤ m := by
      have := bitsL_len b
      rcases hm with ⟨rfl, h⟩ | rfl | rfl | rfl <;> omega
    rw [lay_eq hm.ge hb hk hr hl1]
    dsimp only
    refine wbp ?_
    rw [if_pos rfl]
    refine wpAny_bind ?_
    rw [hashByValue_scannable 8 (x := .int (k : Int) t) rfl]
    refine wpAny_pure ?_
    rw [if_pos (by rfl)]
    refine wpAny_bind (wpAny_storeSet_of ho hd ?_ (esOf_small _))
    have p1 := put_at ho hd (esOf (bitsL (b ||| 2 ^ k)) (fun j => if j = k then t else tk j)) (tbOf (bitsL (b ||| 2 ^ k)) m (ledOf w) mv)
    have sb1 := Heap.SameBut.update s.heap a (Obj.putSet (esOf (bitsL (b ||| 2 ^ k)) (fun j => if j = k then t else tk j)) (tbOf (bitsL (b ||| 2 ^ k)) m (ledOf w) mv))
    have lb := fp.2.2.1
    by_cases htf : (tbOf (bitsL (b ||| 2 ^ k)) m (ledOf w) mv).tooFull = true
    · rw [htf]
      have h5 : m = 7 ∧ (bitsL (b ||| 2 ^ k)).length = 5 := by
        unfold SetTable.tooFull SetTable.fill at htf
        have e : ((bitsL (b ||| 2 ^ k)).toArray.size + 0) * 5 ≥ m * 3 := of_decide_eq_true htf
        rw [List.size_toArray] at e
        have := bitsL_len (b ||| 2 ^ k)
        rcases hm with ⟨rfl, h⟩ | rfl | rfl | rfl <;> omega
      rw [if_pos (by rfl)]
      have hg : SetTable.grown (esOf (bitsL (b ||| 2 ^ k)) (fun j => if j = k then t else tk j)).size = 20 := by rw [esOf_size, h5.2]; decide
      rw [hg, relay_eq fp.2.2.2 (by decide) (by rw [h5.2]; decide), show SetTable.sizeAbove 20 - 1 = 31 from by decide]
      dsimp only
      refine wbp ?_
      refine wpAny_bind (wpAny_storeSet_of p1 rfl ?_ (esOf_small _))
      have p2 := put_at (s := { s with heap := s.heap.update a (Obj.putSet (esOf (bitsL (b ||| 2 ^ k)) (fun j => if j = k then t else tk j)) (tbOf (bitsL (b ||| 2 ^ k)) m (ledOf w) mv)) }) p1 rfl (esOf (bitsL (b ||| 2 ^ k)) (fun j => if j = k then t else tk j)) (tbOf (bitsL (b ||| 2 ^ k)) 31 (ledOf w) ((tbOf (bitsL (b ||| 2 ^ k)) m (ledOf w) mv).movedTo 31))
      refine wpAny_pure (wpAny_pure ?_)
      have := h _ _ (sb1.trans (Heap.SameBut.update _ a _)) p2 ⟨fp.2.2.2, hex, _, _, 31, _, rfl, .inr (.inr (.inl rfl))⟩
      rw [hr] at this
      exact this
    · have htf' : (tbOf (bitsL (b ||| 2 ^ k)) m (ledOf w) mv).tooFull = false := by simpa using htf
      rw [htf', if_neg (by simp)]
      refine wpAny_pure (wpAny_pure ?_)
      have h5 : MaskOk m (b ||| 2 ^ k) := by
        unfold SetTable.tooFull SetTable.fill at htf
        have e : ¬ ((bitsL (b ||| 2 ^ k)).toArray.size + 0) * 5 ≥ m * 3 := fun q => htf (decide_eq_true q)
        rw [List.size_toArray] at e
        have := bitsL_len (b ||| 2 ^ k)
        rcases hm with ⟨rfl, h⟩ | h | h | h
        · exact .inl ⟨rfl, by omega⟩
        · exact .inr (.inl h)
        · exact .inr (.inr (.inl h))
        · exact .inr (.inr (.inr h))
      have := h _ _ sb1 p1 ⟨fp.2.2.2, hex, _, _, m, _, rfl, h5⟩
      rw [hr] at this
      exact this
theorem iset_setAdd {Q : Bool → Shared → Prop} (ho : s.heap.get? a = some o) (hi : IsetO w o b) {k t : Nat} (hk : k < 8)
    (h : ∀ h' o', Heap.SameBut a s.heap h' → h'.get? a = some o' → IsetO w o' (b ||| 2 ^ k) → Q (!b.testBit k) { s with heap := h', toks := s.toks + 1 }) :
    wpAny (model Pw w) A (setAdd a (.int (k : Int) t)) Q E s := by
  unfold setAdd
  refine wpAny_holding (wpAny_bind ((iK w).pyHash (PySem.intKind_is _ _ (k : Int) t) ?_))
  rw [show (iK w).hash (k : Int) = (k : Int) from hash_small hk]
  exact iset_add (s := { s with toks := s.toks + 1 }) ho hi hk h
theorem iset_fresh : IsetO w { cls := .type "set", dict := none, data := .set #[] 0 (.fresh 0 0 (ledOf w)) } 0 :=
  ⟨by decide, ⟨rfl, rfl, rfl⟩, 0, fun _ => 0, 7, 0, rfl, .inl ⟨rfl, by decide⟩⟩
theorem iset_new {Q : Value → Shared → Prop}
    (h : Q (.ref s.heap.objs.size) { s with heap := s.heap.push { cls := .type "set", dict := none, data := .set #[] 0 (.fresh 0 0 (ledOf w)) } }) :
    wpAny (model Pw w) A (newSet (.type "set")) Q E s := by
  unfold newSet setsByText
  refine wpAny_bind (wpAny_bind (wpAny_askSetting (wpAny_pure ?_)))
  dsimp only
  simp only [newObj]
  exact wpAny_bind (wpAny_alloc (wpAny_pure h))
end
end

section
noncomputable def IsetM (w : World) (o : Obj) (b m : Nat) : Prop :=
  b < 256 ∧ o.ExactSet ∧ ∃ ep tk mv, o.data = .set (esOf (bitsL b) tk) ep (tbOf (bitsL b) m (ledOf w) mv) ∧ MaskOk m b
theorem IsetM.o {w o b m} (h : IsetM w o b m) : IsetO w o b := let ⟨h1, h2, ep, tk, mv, h3, h4⟩ := h; ⟨h1, h2, ep, tk, m, mv, h3, h4⟩
theorem IsetO.m {w o b} (h : IsetO w o b) : ∃ m, IsetM w o b m := let ⟨h1, h2, ep, tk, m, mv, h3, h4⟩ := h; ⟨m, h1, h2, ep, tk, mv, h3, h4⟩
theorem or_bits {l : List Nat} : ∀ {b i : Nat}, (l.foldl (fun m k => m ||| 2 ^ k) b).testBit i = (b.testBit i || l.contains i) := by
  induction l with
  | nil => intro b i; simp
  | cons x r ih =>
    intro b i
    rw [List.foldl_cons, ih, Nat.testBit_or, List.contains_cons]
    have : (2 ^ x).testBit i = (i == x) := by
      rw [Nat.testBit_two_pow]
      by_cases h : x = i
      · subst h; simp
      · rw [decide_eq_false h]; symm; simpa using fun q => h q.symm
    rw [this, Bool.or_assoc]
theorem bit_small {b i : Nat} (hb : b < 256) (h : b.testBit i = true) : i < 8 := by
  refine Nat.lt_of_not_le fun q => ?_
  rw [Nat.testBit_lt_two_pow (Nat.lt_of_lt_of_le hb (by rw [show 256 = 2 ^ 8 from rfl]; exact Nat.pow_le_pow_right (by decide) q))] at h
  cases h
theorem or_all {b b' : Nat} {l : List Nat} (hb : b' < 256) (p : l.Perm (bitsL b')) : l.foldl (fun m k => m ||| 2 ^ k) b = b ||| b' := by
  refine Nat.eq_of_testBit_eq fun i => ?_
  rw [or_bits, Nat.testBit_or]
  congr 1
  cases h : b'.testBit i with
  | true => simpa using p.mem_iff.mpr (bitsL_mem.mpr ⟨bit_small hb h, h⟩)
  | false =>
    cases q : l.contains i with
    | false => rfl
    | true =>
      have := (bitsL_mem.mp (p.mem_iff.mp (by simpa using q))).2
      rw [h] at this; cases this
section
variable {w : World} {A : Around} {E : Value → Shared → Prop} {s : Shared} {a : Addr} {o : Obj} {b : Nat}
theorem above_small {n : Nat} (h : n ≤ 32) (h2 : 8 ≤ n) : SetTable.sizeAbove n - 1 = 15 ∨ SetTable.sizeAbove n - 1 = 31 ∨ SetTable.sizeAbove n - 1 = 63 := by
  have : ∀ n : Nat, n < 33 → 8 ≤ n → SetTable.sizeAbove n - 1 = 15 ∨ SetTable.sizeAbove n - 1 = 31 ∨ SetTable.sizeAbove n - 1 = 63 := by decide +kernel
  exact this n (by omega) h2
theorem iset_room {Q : Unit → Shared → Prop} {m n : Nat} (hn : n ≤ 8) (ho : s.heap.get? a = some o) (hi : IsetM w o b m)
    (h : ∀ h' o' m', Heap.SameBut a s.heap h' → h'.get? a = some o' → IsetM w o' b m' → (m' = 7 → (bitsL b).length + n ≤ 4) → Q () { s with heap := h' }) :
    wpAny (model Pw w) A (setRoomFor a n) Q E s := by
  obtain ⟨hb, hex, ep, tk, mv, hd, hm⟩ := hi
  have hf := iset_fits (led := ledOf w) (mv := mv) hm tk
  have l8 := bitsL_len b
  unfold setRoomFor
  refine wpAny_bind (wpAny_setState_of ho hd hf ?_)
  dsimp only
  unfold SetTable.roomFor
  by_cases hc : ((tbOf (bitsL b) m (ledOf w) mv).fill + n) * 5 ≥ (tbOf (bitsL b) m (ledOf w) mv).mask * 3
  · rw [if_pos hc]
    dsimp only
    have hc' : ((bitsL b).length + n) * 5 ≥ m * 3 := by
      have : (tbOf (bitsL b) m (ledOf w) mv).fill = (bitsL b).length := by unfold SetTable.fill; simp
      rw [this] at hc; exact hc
    have hw : (((tbOf (bitsL b) m (ledOf w) mv).place.size + n) * 2) = ((bitsL b).length + n) * 2 := by simp
    rw [hw]
    have h7 := hm.ge
    have ab := above_small (n := ((bitsL b).length + n) * 2) (by omega) (by omega)
    unfold setRelay
    refine wpAny_bind (wpAny_setState_of ho hd hf ?_)
    dsimp only
    rw [if_neg (by rw [sizeLine_eq]; omega)]
    unfold SetTable.relaid
    rw [esOf_hashes, laid_eq (by omega) hb]
    generalize SetTable.sizeAbove (((bitsL b).length + n) * 2) - 1 = m' at ab ⊢
    have e1 : (List.range (bitsL b).length).toArray.filterMap (fun i => (esOf (bitsL b) tk)[i]?) = esOf (bitsL b) tk := by
      have := all_range (esOf (bitsL b) tk)
      rwa [esOf_size] at this
    refine wbe (a := (esOf (bitsL b) tk, tbOf (bitsL b) m' (ledOf w) ((tbOf (bitsL b) m (ledOf w) mv).movedTo m'))) ?_ ?_
    · show (if _ then _ else _) = _
      have e2 : Array.filterMap (fun x => (esOf (bitsL b) tk)[x]?) (List.range (bitsL b).length).toArray = esOf (bitsL b) tk := e1
      rw [e2, if_neg (by simp)]
    · refine wpAny_storeSet_of ho hd ?_ (esOf_small _)
      have ml : MaskOk m' b := .inr ab
      exact h _ _ m' (Heap.SameBut.update s.heap a _) (put_at ho hd _ _) ⟨hb, hex, _, tk, _, rfl, ml⟩ (fun q => by omega)
  · rw [if_neg hc]
    dsimp only
    have hc' : ¬ ((bitsL b).length + n) * 5 ≥ m * 3 := by
      have : (tbOf (bitsL b) m (ledOf w) mv).fill = (bitsL b).length := by unfold SetTable.fill; simp
      rw [this] at hc; exact hc
    have e : s = { s with heap := s.heap } := by cases s; rfl
    refine wpAny_pure ?_
    exact h s.heap o m (Heap.SameBut.refl a s.heap) ho ⟨hb, hex, ep, tk, mv, hd, hm⟩ (fun q => by subst q; omega)
theorem erase_perm {α : Type} : ∀ (l : List α) (i : Nat) (x : α), l[i]? = some x → (x :: l.eraseIdx i).Perm l
  | [], _, _, h => by simp at h
  | y :: r, 0, x, h => by
    simp only [List.getElem?_cons_zero, Option.some.injEq] at h
    subst h
    exact List.Perm.refl _
  | y :: r, i + 1, x, h => by
    rw [List.getElem?_cons_succ] at h
    exact (List.Perm.swap y x (r.eraseIdx i)).trans ((erase_perm r i x h).cons y)
theorem pick_go {α : Type} (next : Nat → Nat) : ∀ (fuel k : Nat) (left : List α) (out : Array α), left.length ≤ fuel → (pickOrder.go next fuel k left out).toList.Perm (out.toList ++ left)
  | 0, k, left, out, h => by
    have : left = [] := List.length_eq_zero_iff.mp (by omega)
    subst this
    unfold pickOrder.go; simp
  | f + 1, k, left, out, h => by
    unfold pickOrder.go
    cases e : left[next k % left.length]? with
    | none =>
      have : left = [] := by
        cases left with
        | nil => rfl
        | cons x r =>
          have := List.getElem?_eq_none_iff.mp e
          have l2 := Nat.mod_lt (next k) (show (x :: r).length > 0 by simp)
          omega
      subst this
      dsimp only
      simp
    | some x =>
      dsimp only
      obtain ⟨hl, hx⟩ := List.getElem?_eq_some_iff.mp e
      have ih := pick_go next f (k + 1) (left.eraseIdx (next k % left.length)) (out.push x) (by rw [List.length_eraseIdx_of_lt hl]; omega)
      refine ih.trans ?_
      rw [Array.toList_push, List.append_assoc]
      refine List.Perm.append_left _ ?_
      exact erase_perm _ _ _ e
theorem pick_perm {α : Type} (next : Nat → Nat) (xs : Array α) : (pickOrder next xs).toList.Perm xs.toList := by
  unfold pickOrder
  have := pick_go next xs.size 0 xs.toList #[] (by simp)
  simpa using this
theorem perm_pre {α β : Type} {f : α → β} {g : β → α} (h : ∀ x, g (f x) = x) {l : List β} {S : List α} (p : l.Perm (S.map f)) : ∃ S' : List α, S'.Perm S ∧ l = S'.map f := by
  refine ⟨l.map g, ?_, ?_⟩
  · have := p.map g
    rw [List.map_map] at this
    rwa [show (g ∘ f) = id from funext h, List.map_id] at this
  · rw [List.map_map]
    symm
    have : ∀ x ∈ l, (f ∘ g) x = x := fun x hx => by
      obtain ⟨y, _, rfl⟩ := List.mem_map.mp (p.mem_iff.mp hx)
      show f (g (f y)) = f y
      rw [h]
    exact (List.map_congr_left this).trans (List.map_id _)
noncomputable abbrev eF (tk : Nat → Nat) : Nat → Int × Value := fun k => ((k : Int), Value.int (k : Int) (tk k))
theorem eF_inv (tk : Nat → Nat) (x : Nat) : (fun e : Int × Value => e.1.toNat) (eF tk x) = x := by simp [eF]
theorem iset_walk {Q : Array (Int × Value) → Shared → Prop} {m mv ep : Nat} {tk : Nat → Nat} (hm : MaskOk m b) (ho : s.heap.get? a = some o) (hd : o.data = .set (esOf (bitsL b) tk) ep (tbOf (bitsL b) m (ledOf w) mv))
    (h : ∀ l : List Nat, l.Perm (bitsL b) → Q (l.map (eF tk)).toArray s) :
    wpAny (model Pw w) A (setWalk a) Q E s := by
  have hf := iset_fits (led := ledOf w) (mv := mv) hm tk
  unfold setWalk setsByText
  refine wpAny_bind (wpAny_setState_of ho hd hf ?_)
  dsimp only
  refine wpAny_bind (wpAny_bind (wpAny_askSetting (wpAny_pure ?_)))
  show wpAny _ A (if w.params.followText "set-order" = true then _ else _) _ _ _
  by_cases hc : w.params.followText "set-order" = true
  · rw [if_pos hc]
    refine wpAny_bind (wpAny_askSetting (wpAny_pure ?_))
    obtain ⟨l, p, e⟩ := perm_pre (f := eF tk) (g := fun e => e.1.toNat) (eF_inv tk) (pick_perm ((model Pw w).w.params.setOrder a ep) (esOf (bitsL b) tk))
    have := h l p
    rw [← e] at this
    simpa using this
  · rw [if_neg hc]
    have hl : ledOf w = true := by unfold ledOf; simpa using hc
    have e : esOf (bitsL b) tk = ((bitsL b).map (eF tk)).toArray := rfl
    rw [e]
    rw [if_neg (by show ¬ (!true && _) = true; simp)]
    rw [hl]
    refine wbe (a := ()) ?_ (wpAny_pure (h _ (List.Perm.refl _)))
    show (if _ then _ else _) = _
    rw [if_neg (by show ¬ (!true && _) = true; simp)]
theorem iset_for {f : Int × Value → PUnit → Sem (ForInStep PUnit)} {ao : Addr} {oo : Obj} (ne : ao ≠ a) (tk : Nat → Nat)
    (hf : ∀ (k : Nat) (s : Shared) (P : Shared → Prop), wpAny (model Pw w) A (setAddHashed a (.int (k : Int) (tk k)) (k : Int)) (fun _ s' => s'.heap.get? ao = some oo ∧ P s') E s → wpAny (model Pw w) A (f (eF tk k) PUnit.unit) (fun st s' => st = .yield PUnit.unit ∧ P s') E s) :
    ∀ (l : List Nat) (b : Nat) (o : Obj) (s : Shared) (Q : PUnit → Shared → Prop), (∀ k ∈ l, k < 8) → s.heap.get? ao = some oo → s.heap.get? a = some o → IsetO w o b →
    (∀ h' o', Heap.SameBut a s.heap h' → h'.get? a = some o' → IsetO w o' (l.foldl (fun m k => m ||| 2 ^ k) b) → Q PUnit.unit { s with heap := h' }) →
    wpAny (model Pw w) A (forIn (l.map (eF tk)) PUnit.unit f) Q E s
  | [], b, o, s, Q, _, _, ho, hi, h => by
    rw [List.map_nil, List.forIn_nil]
    exact wpAny_pure (h s.heap o (Heap.SameBut.refl a s.heap) ho hi)
  | k :: l, b, o, s, Q, hl, hao, ho, hi, h => by
    rw [List.map_cons, List.forIn_cons]
    refine wb (hf k s (fun s' => ∃ h' o', Heap.SameBut a s.heap h' ∧ h'.get? a = some o' ∧ IsetO w o' (b ||| 2 ^ k) ∧ s' = { s with heap := h' }) (iset_add ho hi (hl k List.mem_cons_self) fun h' o' sb g i => ⟨(sb.2 ao ne).trans hao, h', o', sb, g, i, rfl⟩)) (fun st s' hpt => ?_)
    obtain ⟨e, h', o', sb, g, i, e'⟩ := hpt
    subst e e'
    refine iset_for ne tk hf l (b ||| 2 ^ k) o' { s with heap := h' } Q (fun j hj => hl j (List.mem_cons_of_mem _ hj)) ((sb.2 ao ne).trans hao) g i fun h'' o'' sb2 g2 i2 => ?_
    exact h h'' o'' (sb.trans sb2) g2 i2
end
end

section
section
variable {w : World} {A : Around} {E : Value → Shared → Prop} {s : Shared} {a : Addr} {o : Obj} {b : Nat}
theorem bits_nil {b : Nat} (hb : b < 256) (h : bitsL b = []) : b = 0 := by
  refine Nat.eq_of_testBit_eq fun i => ?_
  rw [Nat.zero_testBit]
  cases e : b.testBit i with
  | false => rfl
  | true =>
    have := bitsL_mem.mpr ⟨bit_small hb e, e⟩
    rw [h] at this; cases this
theorem tb_fill {b m mv : Nat} {led : Bool} : (tbOf (bitsL b) m led mv).fill = (bitsL b).length := by unfold SetTable.fill; simp
theorem iset_merge {Q : Unit → Shared → Prop} {each : Sem Unit} {ao : Addr} {oo : Obj} {bo : Nat} (ne : ao ≠ a) (ho : s.heap.get? a = some o) (hi : IsetO w o b) (hoo : s.heap.get? ao = some oo) (hio : IsetO w oo bo)
    (he : ∀ (s : Shared) (Q : Unit → Shared → Prop), s.heap.get? ao = some oo → Q () s → wpAny (model Pw w) A each Q E s)
    (h : ∀ h' o', Heap.SameBut a s.heap h' → h'.get? a = some o' → IsetO w o' (b ||| bo) → Q () { s with heap := h' }) :
    wpAny (model Pw w) A (setMerge a ao each) Q E s := by
  obtain ⟨hbo, hexo, epo, tko, mo, mvo, hdo, hmo⟩ := hio
  have hfo := iset_fits (led := ledOf w) (mv := mvo) hmo tko
  have l8 := bitsL_len bo
  unfold setMerge
  rw [if_neg (by simpa using fun q => ne q.symm)]
  refine wpAny_bind (wpAny_setState_of hoo hdo hfo ?_)
  dsimp only
  by_cases hem : (esOf (bitsL bo) tko).isEmpty = true
  · rw [if_pos hem]
    have h0 : bo = 0 := bits_nil hbo (by
      have : (esOf (bitsL bo) tko).size = 0 := by simpa using hem
      rw [esOf_size] at this
      exact List.length_eq_zero_iff.mp this)
    subst h0
    have := h s.heap o (Heap.SameBut.refl a s.heap) ho (by rw [Nat.or_zero]; exact hi)
    exact wpAny_pure this
  rw [if_neg hem]
  obtain ⟨m, hi⟩ := hi.m
  refine wpAny_bind (iset_room (by rw [esOf_size]; exact l8) ho hi fun h1 o1 m1 sb1 g1 i1 hm7 => ?_)
  rw [esOf_size] at hm7
  obtain ⟨hb, hex, ep, tk, mv, hd, hm⟩ := id i1
  have hf := iset_fits (led := ledOf w) (mv := mv) hm tk
  have hoo1 : h1.get? ao = some oo := (sb1.2 ao ne).trans hoo
  refine wpAny_bind (wpAny_setState_of (s := { s with heap := h1 }) g1 hd hf ?_)
  dsimp only
  have road : (tbOf (bitsL b) m1 (ledOf w) mv).road (tbOf (bitsL bo) mo (ledOf w) mvo) = if (bitsL b).length ≠ 0 then .oneByOne else if m1 = mo then .slotForSlot else .clean := by
    unfold SetTable.road
    rw [tb_fill]
    show (if ((bitsL b).length != 0) = true then _ else if ((m1 == mo) && (#[] : Array Nat).isEmpty) = true then _ else _) = _
    by_cases c1 : (bitsL b).length = 0
    · have e1 : ((bitsL b).length != 0) = false := by simp [c1]
      rw [e1, if_neg Bool.false_ne_true, if_neg (fun q : (bitsL b).length ≠ 0 => q c1)]
      by_cases c2 : m1 = mo
      · have e2 : ((m1 == mo) && (#[] : Array Nat).isEmpty) = true := by simp [c2]
        rw [e2, if_pos rfl, if_pos c2]
      · have e2 : ((m1 == mo) && (#[] : Array Nat).isEmpty) = false := by simp [c2]
        rw [e2, if_neg Bool.false_ne_true, if_neg c2]
    · have e1 : ((bitsL b).length != 0) = true := by simpa using c1
      rw [e1, if_pos rfl, if_pos c1]
  rw [road]
  by_cases c1 : (bitsL b).length = 0
  · rw [if_neg (fun q : (bitsL b).length ≠ 0 => q c1)]
    have h0 : b = 0 := bits_nil hb (List.length_eq_zero_iff.mp c1)
    subst h0
    rw [Nat.zero_or] at h
    by_cases c2 : m1 = mo
    · rw [if_pos c2]
      dsimp only
      rw [Bool.and_self]
      refine wpAny_storeSet_of (s := { s with heap := h1 }) g1 hd ?_ (esOf_small _)
      exact h _ _ (sb1.trans (Heap.SameBut.update h1 a _)) (put_at (s := { s with heap := h1 }) g1 hd _ _) ⟨hbo, hex, _, tko, mo, mv, rfl, hmo⟩
    · rw [if_neg c2]
      dsimp only
      rw [Bool.and_self, esOf_hashes]
      have e3 : SetTable.laid (tbOf (bitsL 0) m1 (ledOf w) mv).mask (tbOf (bitsL 0) m1 (ledOf w) mv).finger (tbOf (bitsL 0) m1 (ledOf w) mv).moves (ledOf w) ((tbOf (bitsL 0) m1 (ledOf w) mv).plain && (tbOf (bitsL bo) mo (ledOf w) mvo).plain) (hsOf (bitsL bo)) = some (tbOf (bitsL bo) m1 (ledOf w) mv, (List.range (bitsL bo).length).toArray) := laid_eq hm.ge hbo _ _ _ _
      rw [e3]
      refine wbe (a := (esOf (bitsL bo) tko, tbOf (bitsL bo) m1 (ledOf w) mv)) ?_ ?_
      · show (if _ then _ else _) = _
        have e2 : Array.filterMap (fun x => (esOf (bitsL bo) tko)[x]?) (List.range (bitsL bo).length).toArray = esOf (bitsL bo) tko := by
          have := all_range (esOf (bitsL bo) tko)
          rwa [esOf_size] at this
        rw [e2, if_neg (by simp)]
      · refine wpAny_storeSet_of (s := { s with heap := h1 }) g1 hd ?_ (esOf_small _)
        refine h _ _ (sb1.trans (Heap.SameBut.update h1 a _)) (put_at (s := { s with heap := h1 }) g1 hd _ _) ⟨hbo, hex, _, tko, m1, mv, rfl, ?_⟩
        rcases hm with ⟨q, _⟩ | q
        · have := hm7 q
          exact .inl ⟨q, by omega⟩
        · exact .inr q
  · rw [if_pos c1]
    dsimp only
    have hwu : ∀ (Q : Array (Int × Value) → Shared → Prop), (∀ l : List Nat, l.Perm (bitsL bo) → Q (l.map (eF tko)).toArray { s with heap := h1 }) → wpAny (model Pw w) A (setWalkUnseen ao [a] (some a)) Q E { s with heap := h1 } := by
      intro Q hQ
      unfold setWalkUnseen setsByText
      refine wpAny_bind (wpAny_setState_of (s := { s with heap := h1 }) hoo1 hdo hfo ?_)
      dsimp only
      refine wpAny_bind (wpAny_bind (wpAny_askSetting (wpAny_pure ?_)))
      have hc : (((model Pw w).w.params.followText "set-order" || (ledOf w && true)) || decide ((esOf (bitsL bo) tko).size ≤ 1)) = true := by
        show ((w.params.followText "set-order" || ((!(w.params.followText "set-order")) && true)) || _) = true
        cases w.params.followText "set-order" <;> rfl
      rw [if_pos hc]
      exact iset_walk (s := { s with heap := h1 }) hmo hoo1 hdo hQ
    refine wpAny_bind (hwu _ fun l p => ?_)
    rw [← Array.forIn_toList]
    dsimp only
    refine wpAny_bind (iset_for (a := a) (w := w) (ao := ao) (oo := oo) ne tko (fun k s P hk => ?_) l b o1 { s with heap := h1 } _ (fun k hk => (bitsL_mem.mp (p.mem_iff.mp hk)).1) hoo1 g1 i1.o ?_)
    · refine wbh (wm hk (fun _ s' ⟨hs', hP⟩ => ?_))
      refine wpAny_bind (he s' _ hs' ?_)
      refine wpAny_bind (wpAny_setState_of hs' hdo hfo ?_)
      dsimp only
      rw [if_neg (by simp)]
      exact wpAny_pure ⟨rfl, hP⟩
    · intro h' o' sb g i
      rw [or_all hbo p] at i
      exact wpAny_pure (h _ _ (sb1.trans sb) g i)
theorem entry_set_or : entryFor table "set.__or__" = some Builtin.«frozenset.__or__» :=
  entryFor_alias (id' := "frozenset.__or__") (by rw [fastTable_eq_tree]; kernel_rfl) rfl (by decide +kernel) (by rw [fastTable_eq_tree]; kernel_rfl)
theorem sub_set_set : isSubtype (.type "set") (.type "set") = pure true := by rw [isSubtype_type]; kernel_rfl
theorem isSet {Q : Bool → Shared → Prop} (ho : s.heap.get? a = some o) (hx : o.ExactSet) (h : Q true s) : wpAny (model Pw w) A (isInstance (.ref a) (.type "set")) Q E s :=
  wpAny_isInstance (T := "set") ⟨o, ho, hx.1⟩ sub_set_set h
theorem isAny {Q : Bool → Shared → Prop} (ho : s.heap.get? a = some o) (hx : o.ExactSet) (h : Q true s) : wpAny (model Pw w) A (Builtin.Frozenset.isAnySet (.ref a)) Q E s := by
  unfold Builtin.Frozenset.isAnySet
  exact wpAny_bind (isSet ho hx (wpAny_pure h))
theorem iset_or {Q : Value → Shared → Prop} {ao : Addr} {oo : Obj} {bo : Nat} (ne : ao ≠ a) (ho : s.heap.get? a = some o) (hi : IsetO w o b) (hoo : s.heap.get? ao = some oo) (hio : IsetO w oo bo)
    (h : ∀ h' o', (∀ b o, s.heap.get? b = some o → h'.get? b = some o) → h'.get? s.heap.objs.size = some o' → IsetO w o' (b ||| bo) → Q (.ref s.heap.objs.size) { s with heap := h' }) :
    wpAny (model Pw w) A (call (.builtin "set.__or__") [.ref a, .ref ao]) (fun v s' => v ≠ .notImplemented ∧ Q v s') E s := by
  refine wpAny_call_entry F.slot_set_or ⟨o, ho, hi.2.1.1⟩ entry_set_or ?_ (F.args_set_or_2 _ _)
  show wpAny _ _ (Builtin.Frozenset.slot1 "__or__" _ >>= _) _ _ _
  refine wbe (a := (Value.ref a, Value.ref ao)) rfl ?_
  show wpAny _ _ ((Builtin.Frozenset.isAnySet (.ref a) >>= _) >>= _) _ _ _
  refine wpAny_bind (wpAny_bind (isAny ho hi.2.1 ?_))
  show wpAny _ _ (Builtin.Frozenset.isAnySet (.ref ao)) _ _ _
  refine isAny hoo hio.2.1 ?_
  show wpAny _ _ (Builtin.Frozenset.addrOf (.ref a) >>= _) _ _ _
  refine wbe (a := a) rfl ?_
  show wpAny _ _ ((Builtin.Frozenset.copyOf a >>= _) >>= _) _ _ _
  refine wpAny_bind (wpAny_bind ?_)
  unfold Builtin.Frozenset.copyOf Builtin.Frozenset.baseOf
  refine wpAny_bind (wpAny_bind (isSet ho hi.2.1 (wpAny_pure ?_)))
  rw [if_pos rfl]
  refine wpAny_bind (iset_new ?_)
  refine wbe (a := s.heap.objs.size) rfl ?_
  have gf : (s.heap.push { cls := .type "set", dict := none, data := .set #[] 0 (.fresh 0 0 (ledOf w)) }).get? s.heap.objs.size = some { cls := .type "set", dict := none, data := .set #[] 0 (.fresh 0 0 (ledOf w)) } := Heap.get?_push_size _ rfl
  have up : ∀ b o, s.heap.get? b = some o → (s.heap.push { cls := .type "set", dict := none, data := .set #[] 0 (.fresh 0 0 (ledOf w)) }).get? b = some o := fun b o e => Heap.get?_push_of_some _ e
  have nea : a ≠ s.heap.objs.size := Nat.ne_of_lt (Heap.lt_size ho)
  have neo : ao ≠ s.heap.objs.size := Nat.ne_of_lt (Heap.lt_size hoo)
  generalize s.heap.push { cls := .type "set", dict := none, data := .set #[] 0 (.fresh 0 0 (ledOf w)) } = H at gf up
  refine wpAny_bind (iset_merge (s := { s with heap := H }) nea gf iset_fresh (up _ _ ho) hi (fun _ _ _ hq => wpAny_pure hq) fun h1 o1 sb1 g1 i1 => ?_)
  rw [Nat.zero_or] at i1
  refine wpAny_pure ?_
  have n3 : (Value.ref ao != Value.ref a) = true := by simpa using ne
  rw [n3, if_pos rfl]
  refine wbe (a := s.heap.objs.size) rfl ?_
  refine wbh ?_
  have ho1 : h1.get? ao = some oo := (sb1.2 ao neo).trans (up _ _ hoo)
  unfold Builtin.Frozenset.updateFrom
  refine wpAny_bind (isAny (s := { s with heap := h1 }) ho1 hio.2.1 ?_)
  rw [if_pos rfl]
  refine wbe (a := ao) rfl ?_
  unfold Builtin.Frozenset.merge
  obtain ⟨hbo, hexo, epo, tko, mo, mvo, hdo, hmo⟩ := id hio
  have hfo := iset_fits (led := ledOf w) (mv := mvo) hmo tko
  refine wpAny_bind (wpAny_setEpoch_of (s := { s with heap := h1 }) ho1 hdo hfo ?_)
  refine iset_merge (s := { s with heap := h1 }) neo g1 i1 ho1 hio (fun s' Q hs hq => ?_) fun h2 o2 sb2 g2 i2 => ?_
  · unfold Builtin.Frozenset.unchanged
    refine wpAny_bind (wpAny_setEpoch_of hs hdo hfo ?_)
    rw [if_neg (by simp)]
    exact wpAny_pure hq
  · refine wpAny_pure (wpAny_pure ⟨_, rfl, by simp, ?_⟩)
    refine h h2 o2 (fun c oc hc => ?_) g2 i2
    have nc : c ≠ s.heap.objs.size := Nat.ne_of_lt (Heap.lt_size hc)
    exact (sb2.2 c nc).trans ((sb1.2 c nc).trans (up _ _ hc))
end
end

section
theorem slot_setiter_next : PySem.Slot "set_iterator" "__next__" "set_iterator.__next__" :=
  .of (owner := "set_iterator") (n := "__next__") (by rw [typeLookup_type, builtinLookup_eq_fast]; kernel_rfl) (by decide +kernel) (by decide +kernel) (by decide +kernel)
    (by first | exact .inl (by decide +kernel) | exact .inr (by decide +kernel)) (by rw [isSubtype_type]; kernel_rfl)
theorem slot_setiter_iter : PySem.Slot "set_iterator" "__iter__" "set_iterator.__iter__" :=
  .of (owner := "set_iterator") (n := "__iter__") (by rw [typeLookup_type, builtinLookup_eq_fast]; kernel_rfl) (by decide +kernel) (by decide +kernel) (by decide +kernel)
    (by first | exact .inl (by decide +kernel) | exact .inr (by decide +kernel)) (by rw [isSubtype_type]; kernel_rfl)
theorem entry_setiter_next : entryFor table "set_iterator.__next__" = some Builtin.«set_iterator.__next__» := entryFor_of_tree (by kernel_rfl)
theorem entry_setiter_iter : entryFor table "set_iterator.__iter__" = some Builtin.«dict_keyiterator.__iter__» :=
  entryFor_alias (id' := "dict_keyiterator.__iter__") (by rw [fastTable_eq_tree]; kernel_rfl) rfl (by decide +kernel) (by rw [fastTable_eq_tree]; kernel_rfl)
theorem entry_set_iter : entryFor table "set.__iter__" = some Builtin.«frozenset.__iter__» :=
  entryFor_alias (id' := "frozenset.__iter__") (by rw [fastTable_eq_tree]; kernel_rfl) rfl (by decide +kernel) (by rw [fastTable_eq_tree]; kernel_rfl)
theorem args_setiter_next (a : Value) : argsOk "set_iterator.__next__" ⟨[a], []⟩ := by unfold argsOk; kernel_rfl
theorem args_setiter_iter (a : Value) : argsOk "set_iterator.__iter__" ⟨[a], []⟩ := by unfold argsOk; kernel_rfl
noncomputable def slotAt (w : World) (b i : Nat) : Nat := if ledOf w then (if i = 0 then 0 else (bitsL b).getD (i - 1) 0 + 1) else 0
theorem fact_next : ∀ b < 256, ∀ i < 9, i ≤ (bitsL b).length → SetTable.below (bitsL b).toArray (if i = 0 then 0 else (bitsL b).getD (i - 1) 0 + 1) = i := by decide +kernel
noncomputable def IsSetIter (h : Heap) (I a slot i n ep : Nat) : Prop := ∃ o, h.get? I = some o ∧ o.cls = .type "set_iterator" ∧ o.data = .fields #[.int (slot : Int) 0, .int (i : Int) 0, .ref a, .int (n : Int) 0, .int (ep : Int) 0]
theorem IsSetIter.typeIs {s : Shared} {I a slot i n ep} (h : IsSetIter s.heap I a slot i n ep) : s.TypeIs (.ref I) "set_iterator" := let ⟨o, ho, hc, _⟩ := h; ⟨o, ho, hc⟩
section
variable {w : World} {A : Around} {E : Value → Shared → Prop} {s : Shared} {a : Addr} {o : Obj} {b : Nat}
noncomputable def OrdOk (w : World) (a : Addr) (b ep : Nat) (tk : Nat → Nat) (l : List Nat) : Prop :=
  l.Perm (bitsL b) ∧ (w.params.followText "set-order" = true → pickOrder (w.params.setOrder a ep) (esOf (bitsL b) tk) = (l.map (eF tk)).toArray) ∧ (w.params.followText "set-order" = false → l = bitsL b)
theorem ord_ex (w : World) (a : Addr) (b ep : Nat) (tk : Nat → Nat) : ∃ l, OrdOk w a b ep tk l := by
  cases hc : w.params.followText "set-order" with
  | true =>
    obtain ⟨l, p, e⟩ := perm_pre (f := eF tk) (g := fun e => e.1.toNat) (eF_inv tk) (pick_perm (w.params.setOrder a ep) (esOf (bitsL b) tk))
    exact ⟨l, p, fun _ => by rw [← e], fun q => by rw [hc] at q; cases q⟩
  | false => exact ⟨bitsL b, List.Perm.refl _, fun q => by (rw [hc] at q; cases q), fun _ => rfl⟩
theorem walk_text {Q : Array (Int × Value) → Shared → Prop} {m mv ep : Nat} {tk : Nat → Nat} (hm : MaskOk m b) (ho : s.heap.get? a = some o) (hd : o.data = .set (esOf (bitsL b) tk) ep (tbOf (bitsL b) m (ledOf w) mv))
    (hc : w.params.followText "set-order" = true) (h : Q (pickOrder (w.params.setOrder a ep) (esOf (bitsL b) tk)) s) : wpAny (model Pw w) A (setWalk a) Q E s := by
  have hf := iset_fits (led := ledOf w) (mv := mv) hm tk
  unfold setWalk setsByText
  refine wpAny_bind (wpAny_setState_of ho hd hf ?_)
  dsimp only
  refine wpAny_bind (wpAny_bind (wpAny_askSetting (wpAny_pure ?_)))
  show wpAny _ A (if w.params.followText "set-order" = true then _ else _) _ _ _
  rw [if_pos hc]
  exact wpAny_bind (wpAny_askSetting (wpAny_pure h))
theorem ord_len {ep : Nat} {tk : Nat → Nat} {l : List Nat} (h : OrdOk w a b ep tk l) : l.length = (bitsL b).length := h.1.length_eq
set_option backward.match.sparseCases true in
theorem next_item {Q : Option (Value × Nat) → Shared → Prop} {m mv ep i k : Nat} {tk : Nat → Nat} {l : List Nat} (hb : b < 256) (hm : MaskOk m b) (ho : s.heap.get? a = some o) (hd : o.data = .set (esOf (bitsL b) tk) ep (tbOf (bitsL b) m (ledOf w) mv))
    (hl : OrdOk w a b ep tk l) (hk : l[i]? = some k) (h : Q (some (.int (k : Int) (tk k), slotAt w b (i + 1))) s) : wpAny (model Pw w) A (setNext a (slotAt w b i) i ep) Q E s := by
  have hf := iset_fits (led := ledOf w) (mv := mv) hm tk
  have hlt : i < l.length := (List.getElem?_eq_some_iff.mp hk).1
  have l8 := bitsL_len b
  have hle := ord_len hl
  unfold setNext setsByText
  refine wpAny_bind (wpAny_setState_of ho hd hf ?_)
  dsimp only
  refine wpAny_bind (wpAny_bind (wpAny_askSetting (wpAny_pure ?_)))
  show wpAny _ A (if w.params.followText "set-order" = true then _ else _) _ _ _
  by_cases hc : w.params.followText "set-order" = true
  · rw [if_pos hc, if_neg (by simp)]
    refine wpAny_bind (walk_text hm ho hd hc (wpAny_pure ?_))
    rw [hl.2.1 hc]
    have led0 : ∀ i, slotAt w b i = 0 := fun i => by unfold slotAt ledOf; rw [hc]; rfl
    rw [led0 (i + 1)] at h
    rw [led0 i]
    rw [List.getElem?_toArray, List.getElem?_map, hk]
    exact h
  · have hc' : w.params.followText "set-order" = false := by simpa using hc
    have hled : ledOf w = true := by unfold ledOf; rw [hc']; rfl
    rw [if_neg hc]
    rw [if_neg (by show ¬ (!true && _) = true; simp)]
    rw [hled]
    refine wbe (a := ()) ?_ ?_
    · show (if _ then _ else _) = _
      rw [if_neg (by show ¬ (!true && _) = true; simp)]
    have e : l = bitsL b := hl.2.2 hc'
    subst e
    have fn := fact_next b hb i (by omega) (by omega)
    have sl : slotAt w b i = (if i = 0 then 0 else (bitsL b).getD (i - 1) 0 + 1) := by unfold slotAt; rw [hled]; rfl
    have sl1 : slotAt w b (i + 1) = k + 1 := by
      unfold slotAt; rw [hled, if_pos rfl, if_neg (by omega), Nat.add_sub_cancel, List.getD_eq_getElem?_getD, hk]; rfl
    rw [sl]
    rw [sl1] at h
    show wpAny _ _ (pure (match (esOf (bitsL b) tk)[SetTable.below (bitsL b).toArray (if i = 0 then 0 else (bitsL b).getD (i - 1) 0 + 1)]?, (bitsL b).toArray[SetTable.below (bitsL b).toArray (if i = 0 then 0 else (bitsL b).getD (i - 1) 0 + 1)]? with
      | some (_, x), some j => some (x, j + 1)
      | _, _ => none)) _ _ _
    rw [fn]
    have e1 : (esOf (bitsL b) tk)[i]? = some ((k : Int), Value.int (k : Int) (tk k)) := by
      rw [List.getElem?_toArray, List.getElem?_map, hk]; rfl
    have e2 : (bitsL b).toArray[i]? = some k := by rw [List.getElem?_toArray, hk]
    rw [e1, e2]
    exact wpAny_pure h
set_option backward.match.sparseCases true in
theorem next_end {Q : Option (Value × Nat) → Shared → Prop} {m mv ep : Nat} {tk : Nat → Nat} {l : List Nat} (hb : b < 256) (hm : MaskOk m b) (ho : s.heap.get? a = some o) (hd : o.data = .set (esOf (bitsL b) tk) ep (tbOf (bitsL b) m (ledOf w) mv))
    (hl : OrdOk w a b ep tk l) (h : Q none s) : wpAny (model Pw w) A (setNext a (slotAt w b l.length) l.length ep) Q E s := by
  have hf := iset_fits (led := ledOf w) (mv := mv) hm tk
  have l8 := bitsL_len b
  have hle := ord_len hl
  unfold setNext setsByText
  refine wpAny_bind (wpAny_setState_of ho hd hf ?_)
  dsimp only
  refine wpAny_bind (wpAny_bind (wpAny_askSetting (wpAny_pure ?_)))
  show wpAny _ A (if w.params.followText "set-order" = true then _ else _) _ _ _
  by_cases hc : w.params.followText "set-order" = true
  · rw [if_pos hc, if_neg (by simp)]
    refine wpAny_bind (walk_text hm ho hd hc (wpAny_pure ?_))
    rw [hl.2.1 hc, List.getElem?_toArray, List.getElem?_map, List.getElem?_eq_none (Nat.le_refl _)]
    exact h
  · have hc' : w.params.followText "set-order" = false := by simpa using hc
    have hled : ledOf w = true := by unfold ledOf; rw [hc']; rfl
    rw [if_neg hc]
    rw [if_neg (by show ¬ (!true && _) = true; simp)]
    rw [hled]
    refine wbe (a := ()) ?_ ?_
    · show (if _ then _ else _) = _
      rw [if_neg (by show ¬ (!true && _) = true; simp)]
    have e : l = bitsL b := hl.2.2 hc'
    subst e
    have fn := fact_next b hb (bitsL b).length (by omega) (Nat.le_refl _)
    have sl : slotAt w b (bitsL b).length = (if (bitsL b).length = 0 then 0 else (bitsL b).getD ((bitsL b).length - 1) 0 + 1) := by unfold slotAt; rw [hled]; rfl
    rw [sl]
    show wpAny _ _ (pure (match (esOf (bitsL b) tk)[SetTable.below (bitsL b).toArray (if (bitsL b).length = 0 then 0 else (bitsL b).getD ((bitsL b).length - 1) 0 + 1)]?, (bitsL b).toArray[SetTable.below (bitsL b).toArray (if (bitsL b).length = 0 then 0 else (bitsL b).getD ((bitsL b).length - 1) 0 + 1)]? with
      | some (_, x), some j => some (x, j + 1)
      | _, _ => none)) _ _ _
    rw [fn]
    have e1 : (esOf (bitsL b) tk)[(bitsL b).length]? = none := by
      rw [List.getElem?_toArray, List.getElem?_map, List.getElem?_eq_none (Nat.le_refl _)]; rfl
    rw [e1]
    exact wpAny_pure h
end
end

section
section
variable {w : World} {A : Around} {E : Value → Shared → Prop} {s : Shared} {a : Addr} {o : Obj} {b : Nat}
noncomputable abbrev itObj (a n ep : Nat) : Obj := { cls := .type "set_iterator", data := .fields #[.int ((0 : Nat) : Int) 0, .int ((0 : Nat) : Int) 0, .ref a, .int (n : Int) 0, .int (ep : Int) 0] }
theorem slotAt_zero : slotAt w b 0 = 0 := by unfold slotAt; split <;> rfl
theorem iset_iter {Q : Value → Shared → Prop} {m mv ep : Nat} {tk : Nat → Nat} (hx : o.ExactSet) (hm : MaskOk m b) (ho : s.heap.get? a = some o) (hd : o.data = .set (esOf (bitsL b) tk) ep (tbOf (bitsL b) m (ledOf w) mv))
    (hQ : Q (.ref s.heap.objs.size) { s with heap := s.heap.push (itObj a (bitsL b).length ep) }) : wpAny (model Pw w) A (pyIter (.ref a)) Q E s := by
  have hf := iset_fits (led := ledOf w) (mv := mv) hm tk
  have hT : s.TypeIs (.ref a) "set" := ⟨o, ho, hx.1⟩
  refine wpAny_pyIter_slot hT F.slot_set_iter (wpAny_call_entry F.slot_set_iter hT entry_set_iter ?_ (F.args_set_iter_1 _))
  unfold Builtin.«frozenset.__iter__»
  refine wpAny_bind (m := Builtin.Frozenset.slot0 _ _) (wpAny_of_eq (a := a) rfl ?_)
  unfold Builtin.Frozenset.sizeOf
  refine wpAny_bind (wpAny_bind (wpAny_setEntries_of ho hd hf (wpAny_pure ?_)))
  unfold setDrawn setsByText
  refine wpAny_bind (wpAny_bind (wpAny_setState_of ho hd hf ?_))
  dsimp only
  refine wpAny_bind (wpAny_bind (wpAny_askSetting (wpAny_pure ?_)))
  refine wpAny_pure ?_
  rw [if_neg (by show ¬ ((!_) && (!true && _)) = true; simp)]
  refine wbp ?_
  refine wpAny_bind (wpAny_setEpoch_of ho hd hf ?_)
  refine wpAny_bind (wpAny_newObj_type (wpAny_pure ⟨_, rfl, "set_iterator", _, ⟨_, Heap.get?_push_size _ rfl, rfl⟩, slot_setiter_next.lookup, ?_⟩))
  rw [esOf_size]
  exact hQ
theorem iset_next {Q : Option Value → Shared → Prop} {I m mv ep i k : Nat} {tk : Nat → Nat} {l : List Nat} (hb : b < 256) (hm : MaskOk m b) (ho : s.heap.get? a = some o) (hd : o.data = .set (esOf (bitsL b) tk) ep (tbOf (bitsL b) m (ledOf w) mv))
    (hit : IsSetIter s.heap I a (slotAt w b i) i (bitsL b).length ep) (ne : a ≠ I) (hl : OrdOk w a b ep tk l) (hk : l[i]? = some k)
    (hQ : ∀ h', IsSetIter h' I a (slotAt w b (i + 1)) (i + 1) (bitsL b).length ep → Heap.SameBut I s.heap h' → Q (some (.int (k : Int) (tk k))) { s with heap := h' }) : wpAny (model Pw w) A (pyNext (.ref I)) Q E s := by
  have hf := iset_fits (led := ledOf w) (mv := mv) hm tk
  obtain ⟨oi, hoi, hci, hdi⟩ := id hit
  unfold pyNext
  refine wpAny_bind (wpAny_attempt (wpAny_callSpecial?_slot (name := Str.ofString "__next__") hit.typeIs slot_setiter_next
    (wpAny_call_entry slot_setiter_next hit.typeIs entry_setiter_next ?_ (args_setiter_next _))))
  unfold Builtin.«set_iterator.__next__»
  refine wbe (a := (Value.ref I, [])) rfl ?_
  dsimp only
  refine wpAny_bind (wpAny_fieldsOf hoi hdi ?_)
  dsimp only
  refine wpAny_bind (wpAny_setEntries_of ho hd hf ?_)
  rw [if_neg (by rw [esOf_size]; simp)]
  simp only [Int.toNat_natCast]
  refine wpAny_bind (next_item hb hm ho hd hl hk ?_)
  dsimp only
  have p1 : (s.heap.update I (Obj.mapFields (·.setIfInBounds 0 (rawInt (slotAt w b (i + 1)))))).get? I = some { oi with data := .fields #[.int (slotAt w b (i + 1) : Int) 0, .int (i : Int) 0, .ref a, .int ((bitsL b).length : Int) 0, .int (ep : Int) 0] } := by
    have := Heap.get?_update_self (Obj.mapFields (·.setIfInBounds 0 (rawInt (slotAt w b (i + 1))))) hoi (Obj.isFreed_of_fields (Obj.data_mapFields hdi _))
    rw [this]
    obtain ⟨c1, d1, dt1, sl1⟩ := oi
    dsimp only at hdi
    subst hdi
    rfl
  refine wpAny_bind (wpAny_setField hoi hdi (by simp) ?_)
  refine wpAny_bind (wpAny_setField (s := { s with heap := s.heap.update I (Obj.mapFields (·.setIfInBounds 0 (rawInt (slotAt w b (i + 1))))) }) p1 rfl (by simp) ?_)
  refine wpAny_pure ⟨_, rfl, wpAny_pure (hQ _ ?_ ((Heap.SameBut.update ..).trans (Heap.SameBut.update ..)))⟩
  refine ⟨_, Heap.get?_update_self _ p1 (Obj.isFreed_of_fields (Obj.data_mapFields rfl _)), (Obj.cls_mapFields ..).trans hci, ?_⟩
  rw [Obj.data_mapFields rfl]
  simp [rawInt]
theorem iset_done {Q : Option Value → Shared → Prop} (hh : A.handled = none) {I m mv ep : Nat} {tk : Nat → Nat} {l : List Nat} (hb : b < 256) (hm : MaskOk m b) (ho : s.heap.get? a = some o) (hd : o.data = .set (esOf (bitsL b) tk) ep (tbOf (bitsL b) m (ledOf w) mv))
    (hit : IsSetIter s.heap I a (slotAt w b l.length) l.length (bitsL b).length ep) (hl : OrdOk w a b ep tk l)
    (hQ : ∀ h', Heap.ExtBut I s.heap h' → Q none { s with heap := h' }) : wpAny (model Pw w) A (pyNext (.ref I)) Q E s := by
  have hf := iset_fits (led := ledOf w) (mv := mv) hm tk
  obtain ⟨oi, hoi, hci, hdi⟩ := id hit
  unfold pyNext
  refine wpAny_bind (wpAny_attempt (wpAny_callSpecial?_slot (name := Str.ofString "__next__") hit.typeIs slot_setiter_next
    (wpAny_call_entry slot_setiter_next hit.typeIs entry_setiter_next ?_ (args_setiter_next _))))
  unfold Builtin.«set_iterator.__next__»
  refine wbe (a := (Value.ref I, [])) rfl ?_
  dsimp only
  refine wpAny_bind (wpAny_fieldsOf hoi hdi ?_)
  dsimp only
  refine wpAny_bind (wpAny_setEntries_of ho hd hf ?_)
  rw [if_neg (by rw [esOf_size]; simp)]
  simp only [Int.toNat_natCast]
  refine wpAny_bind (next_end hb hm ho hd hl ?_)
  dsimp only
  refine wpAny_bind (wpAny_setField hoi hdi (by simp) ?_)
  show wpAny _ _ (newExc (.type "StopIteration") [] >>= _) _ _ _
  refine wpAny_bind ?_
  simp only [newExc, newTuple]
  refine wpAny_bind (wpAny_newObj_type ?_ (by size_fits))
  refine wpAny_bind (m := firstArgMember _ _) (wpAny_of_eq (a := Value.none) (by first | rfl | (simp only [firstArgMember]; rfl)) ?_)
  refine wpAny_newObj_type ?_ (by size_fits)
  simp only [raiseNew]
  refine wpAny_bind (wpAny_handled ?_)
  rw [show A.in1.handled = none from hh]
  refine wbp (wpAny_throw ?_)
  refine wpAny_bind (wpAny_isInstance (T := "StopIteration") (b := true) ⟨_, Heap.get?_push_size _ rfl, rfl⟩ isSubtype_stop ?_)
  exact wpAny_pure (hQ _ (((Heap.SameBut.update ..).extBut.push _).push _))
theorem iset_self {Q : Value → Shared → Prop} {I slot i n ep : Nat} (hit : IsSetIter s.heap I a slot i n ep) (h : Q (.ref I) s) : wpAny (model Pw w) A (pyIter (.ref I)) Q E s := by
  refine wpAny_pyIter_slot hit.typeIs slot_setiter_iter (wpAny_call_entry slot_setiter_iter hit.typeIs entry_setiter_iter ?_ (args_setiter_iter _))
  show wpAny _ _ (ret (.ref I)) _ _ s
  exact wpAny_pure ⟨_, rfl, "set_iterator", _, hit.typeIs, slot_setiter_next.lookup, h⟩
theorem walks_iset (hh : A.handled = none) {I m mv ep : Nat} {tk : Nat → Nat} {l : List Nat} (hb : b < 256) (hm : MaskOk m b) (hd : o.data = .set (esOf (bitsL b) tk) ep (tbOf (bitsL b) m (ledOf w) mv)) (ne : a ≠ I) (hl : OrdOk w a b ep tk l) :
    Walks Pw w A I [I, a] [I] l.length (fun i v => ∃ k, l[i]? = some k ∧ v = .int (k : Int) (tk k)) (fun i h => IsSetIter h I a (slotAt w b i) i (bitsL b).length ep ∧ h.get? a = some o) where
  sub := fun b hb => by simp at hb; simp [hb]
  frame := fun _ _ _ st hk => ⟨let ⟨o, ho, r⟩ := st.1; ⟨o, hk I (by simp) o ho, r⟩, hk a (by simp) _ st.2⟩
  item := fun i s Q E hi st hQ => by
    have hk : l[i]? = some l[i] := List.getElem?_eq_getElem hi
    refine iset_next hb hm st.2 hd st.1 ne hl hk fun h' hit' hs' => ?_
    exact hQ _ h' s.toks ⟨_, hk, rfl⟩ ⟨hit', (hs'.2 a ne).trans st.2⟩ fun b o hb e => (hs'.2 b (fun h => hb (by simp [h]))).trans e
  done := fun s Q E st hQ => iset_done hh hb hm st.2 hd st.1 hl fun h' he' => hQ h' s.toks fun b o hb e => he' b o (fun h => hb (by simp [h])) e
  self := fun _ _ _ _ st hQ => iset_self st.1 hQ
end
end

section
noncomputable def maskOf (l : List Nat) : Nat := l.foldl (fun m k => m ||| 2 ^ k) 0
theorem maskOf_snoc (l : List Nat) (k : Nat) : maskOf (l ++ [k]) = maskOf l ||| 2 ^ k := by unfold maskOf; rw [List.foldl_append]; rfl
section
variable {prog : Program} {w : World} {A : Around} {R : Result → Shared → Prop} {s : Shared}
theorem compTurn_set (elt target iter : PySem.Expr) (ifs : List PySem.Expr) (scope : Scope) (pos : Pos) (it acc : Value) (env : Env) :
    compTurn (.SetComp elt [⟨target, iter, ifs, 0⟩] scope pos) 0 it acc env = (do
      standAt iter.pos
      match ← pyNext it with
      | none => pure (.done .next)
      | some v =>
        letOwnedTupleGo target it v
        assign target env v
        let mut ok := true
        for c in ifs do
          if ok then ok ← isTrue c env (eval c env)
        if ok then
          (do let v ← eval elt env; standAt elt.pos; let _ ← call (.builtin "set.add") [acc, v])
        again (.compLoop (.SetComp elt [⟨target, iter, ifs, 0⟩] scope pos) 0 it acc env)) := by rfl
theorem compLoopS_any {elt target iter : PySem.Expr} {ifs : List PySem.Expr} {scope : Scope} {pos : Pos} {it acc : Value} {env : Env} (I : Nat → Shared → Prop)
    (turn : TurnOK (model prog w) A target elt ifs env it acc "set.add" R I)
    (n : Nat) (h : I n s) : codeAny (model prog w) A (.compLoop (.SetComp elt [⟨target, iter, ifs, 0⟩] scope pos) 0 it acc env) R s := by
  refine codeAny_loop rfl I (fun n s hI => ?_) n h
  show wpAny _ A ((compTurn (.SetComp elt [⟨target, iter, ifs, 0⟩] scope pos) 0 it acc env).onRaise (fun x => do noteFrame x env; theTreesLotGoes x)) _ _ s
  refine wpAny_noted ?_
  rw [compTurn_set]
  refine wbs (wb (turn n s hI) (fun r s₁ h₁ => ?_))
  cases r with
  | none => exact wpAny_pure h₁
  | some v =>
    refine wb h₁ (fun _ s₀ h₀ => wb h₀ (fun _ s₂ h₂ => wb h₂ (fun ok s₃ h₃ => ?_)))
    cases ok with
    | false => exact wpAny_pure ⟨rfl, h₃⟩
    | true =>
      exact wpAny_bind (wb h₃ (fun x s₄ h₄ => wbs (wb h₄ (fun _ s₅ h₅ => wpAny_pure (wpAny_pure ⟨rfl, h₅⟩)))))
theorem codeAny_compStart_set {elt target iter ifs rest scope pos it acc env}
    (h0 : codeAny (model prog w) A (.compLoop (.SetComp elt (⟨target, iter, ifs, 0⟩ :: rest) scope pos) 0 it acc env) R s)
    (h : wpAny (model prog w) A (pyIter it) (fun it' s' => codeAny (model prog w) A (.compLoop (.SetComp elt (⟨target, iter, ifs, 0⟩ :: rest) scope pos) 0 it' acc env) R s')
      (notedBy (model prog w) A env fun x s' => R (.error x) s') s) :
    codeAny (model prog w) A (.compStart (.SetComp elt (⟨target, iter, ifs, 0⟩ :: rest) scope pos) 0 it acc env) R s := by
  refine codeAny_of_tree ?_
  show wpAny _ _ ((compStart (.SetComp elt (⟨target, iter, ifs, 0⟩ :: rest) scope pos) 0 it acc env).onRaise (fun x => do noteFrame x env; standAt theWindowsPlace)) _ _ s
  refine wpAny_notedAt ?_
  unfold compStart
  show wpAny _ _ (ask >>= _) _ _ s
  refine wpAny_bind (wpAny_askSetting (wpAny_ite ?_))
  split
  · first
      | exact wbp (wpAny_pure (And.intro rfl h0))
      | exact wpAny_pure (And.intro rfl h0)
  · first
      | exact wpAny_bind (wpAny_rule (wbs (wb h (fun it' s' h' => wpAny_pure (And.intro rfl h')))))
      | (refine wpAny_bind (wpAny_rule ?_); show wpAny _ _ (standAt iter.pos >>= _) _ _ s; exact wbs (wb h (fun it' s' h' => wpAny_pure (And.intro rfl h'))))
end
theorem call_add {w : World} {A : Around} {E : Value → Shared → Prop} {s : Shared} {a : Addr} {o : Obj} {b : Nat} {Q : Value → Shared → Prop} (ho : s.heap.get? a = some o) (hi : IsetO w o b) {k t : Nat} (hk : k < 8)
    (h : ∀ h' o', Heap.SameBut a s.heap h' → h'.get? a = some o' → IsetO w o' (b ||| 2 ^ k) → Q .none { s with heap := h', toks := s.toks + 1 }) :
    wpAny (model Pw w) A (call (.builtin "set.add") [.ref a, .int (k : Int) t]) Q E s := by
  refine wpAny_call_entry F.slot_set_add ⟨o, ho, hi.2.1.1⟩ F.entry_set_add ?_ (F.args_set_add_2 _ _)
  unfold Builtin.«set.add» Builtin.Frozenset.oneOther
  simp only [List.isEmpty_nil, bind_assoc]
  unfold Builtin.Frozenset.addrOf
  refine wbp ?_
  try dsimp only
  refine wbp ?_
  try dsimp only
  refine wpAny_bind (iset_setAdd ho hi hk fun h' o' sb g i => ?_)
  exact wpAny_pure ⟨_, rfl, h h' o' sb g i⟩
section
variable {c : Ctx0} {d : Nat} {ns : List (Str × NK)} {env : Env} {Γ : List Slot} {nm : List (Str × NameKind)}
theorem mapint_inj : ∀ {l l' : List Nat}, (l.map fun k : Nat => PV.int (k : Int)) = (l'.map fun k : Nat => PV.int (k : Int)) → l = l'
  | [], [], _ => rfl
  | [], _ :: _, h => nomatch h
  | _ :: _, [], h => nomatch h
  | a :: l, b :: l', h => by
    injection h with h1 h2
    injection h1 with h1
    rw [Int.ofNat.inj h1, mapint_inj h2]
theorem setc_core {Src : (c : Ctx0) → Around → PH c.w → Addr → List Addr → List PV → (Nat → Heap → Prop) → Prop} {scope : Scope} {ns' : List (Str × NK)} {caps : List (Option Nat)} {tgt elt iter : PySem.Expr} {ifs : List PySem.Expr} {pos p0 : Pos}
    {bd : PV → List Slot → List Slot} {T : SF Bool} {F : SF PV} {use : Option (Value → Sem Unit)} {Q : Value → Shared → Prop} {E : Value → Shared → Prop}
    (K : EnvK ns nm env) (C0 : CompOK ns ns' scope.names caps) (hkind : scope.kind = .function)
    {xs : List PV} {outs : List Nat} {A : Around} {n₀ : Addr → Prop} {G : PH c.w} {s : Shared} {V : Nat → Option Value} (rm : Rm d A) (SV : StV c ns env Γ A n₀ G s V)
    (hI : wpAny c.M A (eval iter env) (fun V s₁ => wpAny c.M A (pyIter V) (XI Src c A G s xs) E s₁) E s)
    (hlive : ∀ {A G I W D}, Src c A G I W xs D → ∀ i h, D i h → ∀ b ∈ W, ∃ o, h.get? b = some o)
    (hT : ∀ {cenv : Env} {A : Around} {G I W D} {n₁ : Addr → Prop}, Src c A G I W xs D → A.handled = none → (∀ i (s : Shared) (Q : Value → Shared → Prop) (E : Value → Shared → Prop), D i s.heap → Q (.ref I) s → wpAny c.M A (pyIter (.ref I)) Q E s) →
      EnvOK ns' cenv → Off ns' cenv A W → n₁ 86 → (∀ L ∈ FS A, n₁ L ∨ L = cenv.locals) → (∀ b ∈ W, ¬ n₁ b) → Tk c ns' cenv A tgt I W n₁ G bd xs D)
    (hts : ∀ cenv, EnvK ns' (relN nm scope.names) cenv → CTs c d ns' cenv ifs T) (hel : ∀ cenv, EnvK ns' (relN nm scope.names) cenv → CE c d ns' cenv elt F)
    (hout : compP bd T F xs (compΓ caps Γ) = some (outs.map fun k : Nat => PV.int (k : Int))) (ho8 : ∀ k ∈ outs, k < 8) (hsz : xs.length ≤ sizeLine)
    (hs : ∀ x, foldedSetIterable iter env x = pure x)
    (hfin : ∀ s' (G' : PH c.w) D C od m f, Step A (Bel s) G s G' s' → s'.heap.get? D = some od → G' D = none → ¬ Bel s D → IsetO c.w od (maskOf outs) → s'.heap.Ns C m → G' C = none → ¬ Bel s C → C ≠ D → compPost c.M A E use Q (.ref D) C (.ok f) s') :
    wpAny c.M A (comprehension (.SetComp elt [⟨tgt, iter, ifs, 0⟩] scope pos) scope env p0 (newSet (.type "set")) false (eval iter env) use) Q E s := by
  refine comp_gen (Src := Src) (add := "set.add") (Acc := fun _ ys o => ∃ l : List Nat, ys = (l.map fun k : Nat => PV.int (k : Int)) ∧ IsetO c.w o (maskOf l)) K C0 hkind rm SV hI hlive hT hts hel hout hsz hs rfl rfl (fun h => iset_new h) compLoopS_any codeAny_compStart_set (fun _ => ⟨[], rfl, iset_fresh⟩) (fun _ h => h) (fun ho ha hy hu _ h => ?_)
    fun s' G' D C o m f st hp hGD hbD ha => ?_
  · obtain ⟨l, rfl, hi⟩ := ha
    obtain ⟨k, hk, rfl⟩ := List.mem_map.mp hu
    obtain ⟨t, rfl⟩ := hy
    exact call_add ho hi (ho8 k hk) fun h₇ o₇ hs₇ hl₇ hi₇ => h h₇ o₇ _ hs₇ hl₇ ⟨l ++ [k], by rw [List.map_append]; rfl, by rw [maskOf_snoc]; exact hi₇⟩ (Nat.le_succ _)
  · obtain ⟨l, e, hi⟩ := ha
    rw [mapint_inj e] at hfin
    exact hfin s' G' D C o m f st hp hGD hbD hi
end
end

section
section
variable {c : Ctx0} {d : Nat} {ns : List (Str × NK)} {env : Env} {Γ : List Slot} {nm : List (Str × NameKind)}
noncomputable def CodeF (c : Ctx0) (v : Value) : Prop := ∃ cc o vs, v = .ref cc ∧ c.hb.get? cc = some o ∧ o.data = .fields vs
theorem Gl_defP {P : Value → Prop} (K : Kc c) {dd : DefRec} (hdd : dd ∈ recsOf Pw) (hP : ∀ a o fd, c.mg dd.name = some (.ref a) → c.hb.get? a = some o → o.data = .func fd → P fd.code) (ns : List (Str × NK)) (ps : List Str) (k : Nat) {F : SF Out} (hok : fnOk ns dd.scope.names ps = true) (hkind : dd.scope.kind = .function)
    (hco : dd.scope.isCoroutine = false) (hgen : dd.scope.isGenerator = false)
    (hbind : ∀ (pm cd doc : Value) (Vs : List Value), Vs.length = ps.length → bindArgs (Calls.docDef dd.name dd.params dd.body dd.scope pm cd doc) ⟨Vs, []⟩ = pure (ps.zip Vs))
    (hb : ∀ env, EnvK ns dd.scope.names env → P env.code → CS c d ns env dd.body F) : Gl c (d + 1) dd.name (fnF ps.length k F) := by
  obtain ⟨a, o, pm, code, doc, h1, h2, h3, h4⟩ := K.fn dd hdd
  refine ⟨.ref a, .inl h1, .fn h2 h3, ⟨fun args v h => ?_⟩⟩
  have O := FnOK.of hok
  have hcode := hP a o _ h1 h2 h3
  unfold fnF at h
  split at h
  · rename_i hl
    obtain ⟨out, ho, h⟩ := bind_some h
    cases out with
    | next _ => cases h
    | brk _ => cases h
    | ret v' =>
      cases h
      have D : DefAt c a (Calls.docDef dd.name dd.params dd.body dd.scope pm code doc) := ⟨⟨o, h2, h3⟩, h4, rfl, rfl, rfl⟩
      refine FN_def K.toCok ps k D rfl O.ps (fun i x kk hi => ?_) O.ndp hl (hbind pm code doc) (fun L => (O.env hkind rfl rfl L a).ok) (fun L i x hi => ?_) (fun L => (hb _ (O.env (fd := Calls.docDef dd.name dd.params dd.body dd.scope pm code doc) hkind rfl rfl L a) hcode).run _ _ ho) hco hgen
      · rcases (O.each i x kk hi).2 with ⟨e, _⟩ | ⟨e, _⟩ <;> (rw [e]; decide)
      · rcases (O.each i x _ hi).2 with ⟨e, _⟩ | ⟨_, e⟩
        · cases e
        · have := (cellsFrom_gen dd.scope.names { objs := Array.replicate (L + 1) default } []).2.1 x (mem_of_lookup e)
          rw [show ({ objs := Array.replicate (L + 1) default } : Heap).objs.size = L + 1 by simp] at this
          exact this
  · cases h
theorem code_main {A : Around} {E : Value → Shared → Prop} {G : PH c.w} {s : Shared} {Q : Bool → Shared → Prop} (g : GS c A G s) (hc : CodeF c env.code) (h : ∀ b, Q b s) : wpAny c.M A (inMainModule env) Q E s := by
  obtain ⟨cc, o, vs, e, ho, hd⟩ := hc
  have ho' := g.sub _ _ (g.hb _ _ ho)
  unfold inMainModule
  rw [e]
  split
  · exact wpAny_pure (h _)
  · refine wpAny_bind (wpAny_fieldsOf ho' hd ?_)
    split
    · exact wpAny_bind (wpAny_askSetting (wpAny_pure (h _)))
    · exact wpAny_pure (h _)
theorem new_set {A : Around} {G : PH c.w} {s : Shared} (g : GS c A G s) {h' : Heap} {tk : Nat} {o' : Obj} {b : Nat} (htk : s.toks ≤ tk) (up : ∀ b o, s.heap.get? b = some o → h'.get? b = some o) (ho' : h'.get? s.heap.objs.size = some o') (hi : IsetO c.w o' b) :
    XP A G s (.iset b) (.ref s.heap.objs.size) { s with heap := h', toks := tk } :=
  ⟨pin G s.heap.objs.size o', ⟨_, _, rfl, pin_self, hi⟩, Step.pinL (Step.fresh g htk up) ho' (none_size g) fresh_size⟩
theorem iset_or_self {w : World} {A : Around} {E : Value → Shared → Prop} {s : Shared} {a : Addr} {o : Obj} {b : Nat} {Q : Value → Shared → Prop} (ho : s.heap.get? a = some o) (hi : IsetO w o b)
    (h : ∀ h' o', (∀ b o, s.heap.get? b = some o → h'.get? b = some o) → h'.get? s.heap.objs.size = some o' → IsetO w o' b → Q (.ref s.heap.objs.size) { s with heap := h' }) :
    wpAny (model Pw w) A (call (.builtin "set.__or__") [.ref a, .ref a]) (fun v s' => v ≠ .notImplemented ∧ Q v s') E s := by
  refine wpAny_call_entry F.slot_set_or ⟨o, ho, hi.2.1.1⟩ entry_set_or ?_ (F.args_set_or_2 _ _)
  show wpAny _ _ (Builtin.Frozenset.slot1 "__or__" _ >>= _) _ _ _
  refine wbe (a := (Value.ref a, Value.ref a)) rfl ?_
  show wpAny _ _ ((Builtin.Frozenset.isAnySet (.ref a) >>= _) >>= _) _ _ _
  refine wpAny_bind (wpAny_bind (isAny ho hi.2.1 ?_))
  show wpAny _ _ (Builtin.Frozenset.isAnySet (.ref a)) _ _ _
  refine isAny ho hi.2.1 ?_
  show wpAny _ _ (Builtin.Frozenset.addrOf (.ref a) >>= _) _ _ _
  refine wbe (a := a) rfl ?_
  show wpAny _ _ ((Builtin.Frozenset.copyOf a >>= _) >>= _) _ _ _
  refine wpAny_bind (wpAny_bind ?_)
  unfold Builtin.Frozenset.copyOf Builtin.Frozenset.baseOf
  refine wpAny_bind (wpAny_bind (isSet ho hi.2.1 (wpAny_pure ?_)))
  rw [if_pos rfl]
  refine wpAny_bind (iset_new ?_)
  refine wbe (a := s.heap.objs.size) rfl ?_
  have gf : (s.heap.push { cls := .type "set", dict := none, data := .set #[] 0 (.fresh 0 0 (ledOf w)) }).get? s.heap.objs.size = some { cls := .type "set", dict := none, data := .set #[] 0 (.fresh 0 0 (ledOf w)) } := Heap.get?_push_size _ rfl
  have up : ∀ b o, s.heap.get? b = some o → (s.heap.push { cls := .type "set", dict := none, data := .set #[] 0 (.fresh 0 0 (ledOf w)) }).get? b = some o := fun b o e => Heap.get?_push_of_some _ e
  have nea : a ≠ s.heap.objs.size := Nat.ne_of_lt (Heap.lt_size ho)
  generalize s.heap.push { cls := .type "set", dict := none, data := .set #[] 0 (.fresh 0 0 (ledOf w)) } = H at gf up
  refine wpAny_bind (iset_merge (s := { s with heap := H }) nea gf iset_fresh (up _ _ ho) hi (fun _ _ _ hq => wpAny_pure hq) fun h1 o1 sb1 g1 i1 => ?_)
  rw [Nat.zero_or] at i1
  refine wpAny_pure ?_
  have n3 : (Value.ref a != Value.ref a) = false := by simp
  rw [n3, if_neg Bool.false_ne_true]
  refine wpAny_pure (wpAny_pure ⟨_, rfl, by simp, ?_⟩)
  refine h h1 o1 (fun c oc hc => ?_) g1 i1
  have nc : c ≠ s.heap.objs.size := Nat.ne_of_lt (Heap.lt_size hc)
  exact (sb1.2 c nc).trans (up _ _ hc)
theorem bits_inj {a b : Nat} (ha : a < 256) (hb : b < 256) (h : bitsL a = bitsL b) : a = b := by
  refine Nat.eq_of_testBit_eq fun i => ?_
  have m : i ∈ bitsL a ↔ i ∈ bitsL b := by rw [h]
  rw [bitsL_mem, bitsL_mem] at m
  cases e1 : a.testBit i with
  | true =>
    have := (m.mp ⟨bit_small ha e1, e1⟩).2
    rw [this]
  | false =>
    cases e2 : b.testBit i with
    | false => rfl
    | true =>
      have := (m.mpr ⟨bit_small hb e2, e2⟩).2
      rw [e1] at this; cases this
theorem IsetO.inj {w : World} {o : Obj} {a b : Nat} (h1 : IsetO w o a) (h2 : IsetO w o b) : a = b := by
  obtain ⟨a1, _, ep, tk, m, mv, d1, _⟩ := h1
  obtain ⟨a2, _, ep2, tk2, m2, mv2, d2, _⟩ := h2
  rw [d1] at d2
  injection d2 with _ _ t
  have : (bitsL a).toArray = (bitsL b).toArray := congrArg SetTable.place t
  exact bits_inj a1 a2 (by simpa using this)
theorem BO_or_set {a b : Nat} : BO c .BitOr (.iset a) (.iset b) (.iset (a ||| b)) := ⟨fun A G s V₁ V₂ E _ g _ ⟨a1, o1, e1, g1, i1⟩ ⟨a2, o2, e2, g2, i2⟩ => by
  subst e1 e2
  have h1 := g.sub _ _ g1
  have h2 := g.sub _ _ g2
  refine wpAny_binaryOp_same (T := "set") (op := .BitOr) ⟨o1, h1, i1.2.1.1⟩ ⟨o2, h2, i2.2.1.1⟩ F.fills_set_or F.slot_set_or ?_
  by_cases ne : a2 = a1
  · subst ne
    rw [h1] at h2
    cases h2
    have e := i1.inj i2
    subst e
    rw [Nat.or_self]
    exact iset_or_self h1 i1 fun h' o' up ho' hi' => new_set g (Nat.le_refl _) up ho' hi'
  · exact iset_or ne h1 i1 h2 i2 fun h' o' up ho' hi' => new_set g (Nat.le_refl _) up ho' hi'⟩
noncomputable def orS : PV → PV → Option PV
  | .iset a, .iset b => some (.iset (a ||| b))
  | a, b => orP a b
theorem BOp_orS : BOp c .BitOr orS := ⟨fun a b v h => by
  unfold orS at h
  split at h
  · cases h; exact BO_or_set
  · exact BOp_or.run _ _ _ h⟩
noncomputable def lenS : List PV → Option PV
  | [.iset b] => some (.int ((bitsL b).length : Nat))
  | _ => none
theorem Gl_lenS (K : Kc c) : Gl c d "len" lenS := ⟨.builtin "len", K.gv (by decide +kernel) (by decide +kernel), .builtin _, ⟨fun args v h => by
  unfold lenS at h
  split at h
  · cases h
    refine ⟨fun A G s Vs E _ g _ hh => ?_⟩
    obtain ⟨_, _, rfl, ⟨a, o, rfl, ga, hi⟩, rfl⟩ := hh
    obtain ⟨hb, hx, ep, tk, m, mv, hd, hm⟩ := id hi
    have hf := iset_fits (led := ledOf c.w) (mv := mv) hm tk
    refine call_len_set (g.sub _ _ ga) hx hd hf (by rw [esOf_size]; exact Int.lt_of_le_of_lt (Int.ofNat_le.mpr (bitsL_len _)) (by decide)) ?_
    rw [esOf_size]
    exact ⟨G, ⟨_, rfl⟩, Step.tok g _ _ (Nat.le_add_right _ 2)⟩
  · cases h⟩⟩
theorem CE_set0 (hc : CodeF c env.code) {k1 : Nat} {p1 pos : Pos} : CE c d ns env (.Set [.Constant (.int 0) k1 p1] 0 pos) (fun _ => some (.iset 1)) := ⟨fun Γ v hv => ⟨fun A n₀ G s E rm S => by
  cases hv
  have g := S.gs
  rw [arm_eval_Set]
  refine wbs (wpAny_bind (code_main g hc fun b => ?_))
  show wpAny _ A (setDisplay .oneByOne b [(false, do let v ← eval (.Constant (.int 0) k1 p1) env; standAt pos; pure v)]) _ _ _
  unfold setDisplay
  try dsimp only
  rw [if_neg (by decide)]
  refine wpAny_bind (iset_new ?_)
  dsimp only
  have gf : (s.heap.push { cls := .type "set", dict := none, data := .set #[] 0 (.fresh 0 0 (ledOf c.w)) }).get? s.heap.objs.size = some { cls := .type "set", dict := none, data := .set #[] 0 (.fresh 0 0 (ledOf c.w)) } := Heap.get?_push_size _ rfl
  have up : ∀ b o, s.heap.get? b = some o → (s.heap.push { cls := .type "set", dict := none, data := .set #[] 0 (.fresh 0 0 (ledOf c.w)) }).get? b = some o := fun b o e => Heap.get?_push_of_some _ e
  generalize s.heap.push { cls := .type "set", dict := none, data := .set #[] 0 (.fresh 0 0 (ledOf c.w)) } = H at gf up
  refine wbh ?_
  show wpAny _ _ (evalAll [do let v ← eval (.Constant (.int 0) k1 p1) env; standAt pos; pure v] >>= _) _ _ _
  refine wpAny_bind ?_
  show wpAny _ _ ((do let v ← eval (.Constant (.int 0) k1 p1) env; standAt pos; pure v) >>= fun v => holding [v] (evalAll []) >>= fun r => pure (v :: r)) _ _ _
  refine wpAny_bind (wpAny_bind (wpAny_Constant_int (wbs (wpAny_pure (wbh (wpAny_pure (wpAny_pure ?_))))))) 
  refine wbh ?_
  rw [List.forIn_cons]
  refine wpAny_bind (wpAny_bind (wpAny_bind (iset_setAdd (k := 0) (s := { s with heap := H, toks := s.toks + 1 }) gf iset_fresh (by decide) fun h' o' sb g' i' => ?_)))
  refine wpAny_pure ?_
  dsimp only
  rw [List.forIn_nil]
  refine wpAny_pure ?_
  rw [if_neg (by decide)]
  refine wpAny_pure ?_
  show wpAny _ _ (forIn ([] : List (Bool × Sem Value)) PUnit.unit _ >>= _) _ _ _
  rw [List.forIn_nil]
  refine wbp (wpAny_pure (wpAny_pure ?_))
  rw [Nat.zero_or] at i'
  refine new_set g (tk := s.toks + 1 + 1) (by omega) (fun c oc hc => ?_) g' i'
  have nc : c ≠ s.heap.objs.size := Nat.ne_of_lt (Heap.lt_size hc)
  exact (sb.2 c nc).trans (up _ _ hc)⟩⟩
theorem bd1_again {j : Nat} {x y : PV} {Γ : List Slot} : bd1 j y (bd1 j x Γ) = bd1 j y Γ := by
  unfold bd1 clr
  refine List.ext_getElem? fun i => ?_
  simp only [List.getElem?_set, List.getElem?_map, List.length_map, List.length_set]
  by_cases h : j = i
  · subst h; simp
  · simp only [h, if_false]
    cases e : Γ[i]? with
    | none => rfl
    | some sl =>
      cases sl with
      | meth id k => simp only [Option.map_some]; by_cases q : k = j <;> simp [q]
      | _ => rfl
noncomputable def spanOf (F : SF PV) (j : Nat) (base : List Slot) (k : Nat) : Option Nat := match F (bd1 j (.int (k : Int)) base) with
  | some (.int i) => if 0 ≤ i ∧ i < 8 then some i.toNat else none
  | _ => none
set_option tactic.hygienic true in
theorem spanOf_eq {F : SF PV} {j : Nat} {base : List Slot} {k n : Nat} (h : spanOf F j base k = some n) : F (bd1 j (.int (k : Int)) base) = some (.int (n : Int)) ∧ n < 8 := by
  unfold spanOf at h
  split at h
  · rename_i i e
    split at h
    · rename_i q
      cases h
      refine ⟨?_, by omega⟩
      rw [e]; congr 2; omega
    · cases h
  · cases h
noncomputable def setcF (j : Nat) (caps : List (Option Nat)) (iy : Nat) (F : SF PV) : SF PV := fun Γ => match Γ[iy]? with
  | some (.val (.iset b)) => if (bitsL b).all fun k => (spanOf F j (compΓ caps Γ) k).isSome then some (.iset (maskOf ((bitsL b).map fun k => (spanOf F j (compΓ caps Γ) k).getD 0))) else none
  | _ => none
theorem compP_ints {j : Nat} {F : SF PV} {base : List Slot} (g : Nat → Nat) : ∀ (l : List Nat), (∀ k ∈ l, F (bd1 j (.int (k : Int)) base) = some (.int (g k : Int))) → ∀ Γ, (∀ x, bd1 j x Γ = bd1 j x base) →
    compP (bd1 j) (fun _ => some true) F (l.map fun k : Nat => PV.int (k : Int)) Γ = some ((l.map g).map fun k : Nat => PV.int (k : Int))
  | [], _, _, _ => rfl
  | k :: l, h, Γ, hΓ => by
    have ih := compP_ints g l (fun k' hk => h k' (List.mem_cons_of_mem _ hk)) (bd1 j (.int (k : Int)) Γ) (fun x => bd1_again.trans (hΓ x))
    show Option.bind (F (bd1 j (.int (k : Int)) Γ)) (fun v => (compP (bd1 j) (fun _ => some true) F (l.map fun k : Nat => PV.int (k : Int)) (bd1 j (.int (k : Int)) Γ)).map (v :: ·)) = _
    rw [ih, hΓ, h k List.mem_cons_self]
    rfl
theorem maskOf_perm {l l' : List Nat} (p : l.Perm l') : maskOf l = maskOf l' := by
  refine Nat.eq_of_testBit_eq fun i => ?_
  unfold maskOf
  rw [or_bits, or_bits]
  congr 1
  cases h : l'.contains i with
  | true => simpa using p.mem_iff.mpr (by simpa using h)
  | false =>
    cases q : l.contains i with
    | false => rfl
    | true =>
      have := p.mem_iff.mp (show i ∈ l by simpa using q)
      rw [show l'.contains i = true by simpa using this] at h
      cases h
theorem fin_set {A} {G : PH c.w} {s} {G' : PH c.w} {s' D C od m b} {E : Value → Shared → Prop} (g' : GS c A G' s') (h86 : Bel s 86) (st : Step A (Bel s) G s G' s') (hp : s'.heap.get? D = some od) (hGD : G' D = none) (hbD : ¬ Bel s D) (hi : IsetO c.w od b)
    (hm : s'.heap.Ns C m) (hGC : G' C = none) (hbC : ¬ Bel s C) (hCD : C ≠ D) {f} : compPost c.M A E none (XP A G s (.iset b)) (.ref D) C (.ok f) s' := by
  refine ⟨m, hm, fun h' hs' => ?_⟩
  have hk : ∀ b o, b ∉ [C] → s'.heap.get? b = some o → h'.get? b = some o := fun b o hb e => hs'.extBut b o (fun q => hb (by simp [q])) e
  have x₁ := st.trans (Step.touch g' (W := [C]) (n₁ := Bel s) (fun b hb => by rw [List.mem_singleton] at hb; subst hb; exact hbC) (fun q => hbC (by rw [List.mem_singleton] at q; exact q ▸ h86)) (by simpa using hGC) (tk := s'.toks) (Nat.le_refl _) hk)
  have eD : h'.get? D = some od := hk D _ (by simpa using Ne.symm hCD) hp
  exact ⟨pin G' D od, ⟨D, od, rfl, pin_self, hi⟩, x₁.pinL eD hGD hbD⟩
theorem eval_SetComp {elt : PySem.Expr} {gens : List Comprehension} {scope : Scope} {pos : Pos} : eval (.SetComp elt gens scope pos) env = comprehension (.SetComp elt gens scope pos) scope env (firstIterPos gens pos) (newSet (.type "set")) (firstAsync gens) (firstIter gens env) := rfl
set_option tactic.hygienic true in
theorem CE_setcomp (K : EnvK ns nm env) {ns' : List (Str × NK)} {caps : List (Option Nat)} {scope : Scope} {x y : Str} {np py pos : Pos} {elt : PySem.Expr} {j iy : Nat} {k ky : NK} {F : SF PV}
    (C0 : compOk ns ns' scope.names caps = true) (hkind : scope.kind = .function) (hj : findN ns' x 0 = some (j, k)) (hk : (k != .cap) = true) (hy : findN ns y 0 = some (iy, ky))
    (hel : ∀ cenv, EnvK ns' (relN nm scope.names) cenv → CE c d ns' cenv elt F) : CE c d ns env (.SetComp elt [⟨.Name x np, .Name y py, [], 0⟩] scope pos) (setcF j caps iy F) := ⟨fun Γ v hv => ⟨fun A n₀ G s E rm S => by
  unfold setcF at hv
  split at hv
  · rename_i b hb
    split at hv
    · rename_i hall
      cases hv
      obtain ⟨V, SV⟩ := S
      have hk' : k ≠ .cap := by simpa using hk
      obtain ⟨vy, hvy, a, o, rfl, ga, hi⟩ := SV.slot iy _ hb
      obtain ⟨hb8, hx, ep, tk, m, mv, hd, hm⟩ := id hi
      have ha := SV.gs.sub _ _ ga
      obtain ⟨l, hl⟩ := ord_ex c.w a b ep tk
      have hg : ∀ k ∈ bitsL b, F (bd1 j (.int (k : Int)) (compΓ caps Γ)) = some (.int (((spanOf F j (compΓ caps Γ) k).getD 0 : Nat) : Int)) ∧ (spanOf F j (compΓ caps Γ) k).getD 0 < 8 := fun k hkb => by
        have h1 := List.all_eq_true.mp hall k hkb
        obtain ⟨n, hn⟩ := Option.isSome_iff_exists.mp h1
        rw [hn]
        exact spanOf_eq hn
      have ne : a ≠ s.heap.objs.size := Nat.ne_of_lt (Heap.lt_size ha)
      rw [eval_SetComp]
      show wpAny c.M A (comprehension (.SetComp elt [⟨.Name x np, .Name y py, [], 0⟩] scope pos) scope env _ (newSet (.type "set")) false (eval (.Name y py) env) none) _ E s
      refine setc_core (Src := Src1) (use := none) (xs := l.map fun k : Nat => PV.int (k : Int)) (outs := l.map fun k => (spanOf F j (compΓ caps Γ) k).getD 0) (T := fun _ => some true) K (CompOK.of C0) hkind rm SV ?_ (fun S => S.live) (fun S hh hself ok' O h86 hf hW => S.tk ok' (findN_get hj) hk' O h86 hf hW) (fun _ _ => CTs_nil) hel ?_ ?_ ?_ (fun _ => rfl) ?_
      · refine wpAny_Name (loadVar K.ok (findN_get hy) SV hvy ?_) (K.ok.dbg iy y ky (findN_get hy))
        refine iset_iter hx hm ha hd ?_
        have W := walks_iset (w := c.w) (A := A) (I := s.heap.objs.size) rm.handled hb8 hm hd ne hl
        have S1 : Src1 c A G s.heap.objs.size [s.heap.objs.size] (l.map fun k : Nat => PV.int (k : Int)) (fun i h => IsSetIter h s.heap.objs.size a (slotAt c.w b i) i (bitsL b).length ep ∧ h.get? a = some o) := by
          refine ⟨⟨_, _, _, by rw [List.length_map]; exact W, ?_, by simp, fun b hb => ?_⟩, ?_⟩
          · rintro i v x ⟨k, e1, rfl⟩ hx
            rw [List.getElem?_map, e1] at hx
            cases hx
            exact ⟨_, rfl⟩
          · simp only [List.mem_cons, List.not_mem_nil, or_false] at hb
            rcases hb with rfl | rfl
            · exact .inl (by simp)
            · exact .inr ⟨_, ga⟩
          · intro i h hD b hb
            rw [List.mem_singleton] at hb; subst hb
            obtain ⟨o, ho, _⟩ := hD.1; exact ⟨o, ho⟩
        exact ⟨G, s.heap.objs.size, [s.heap.objs.size], _, rfl, S1, ⟨⟨_, Heap.get?_push_size _ rfl, rfl, by rw [slotAt_zero]⟩, Heap.get?_push_of_some _ ha⟩, fun b hb => by rw [List.mem_singleton] at hb; subst hb; exact ⟨fresh_size, none_size SV.gs⟩, W.self, Step.push1 SV.gs _⟩
      · exact compP_ints _ l (fun k hkl => (hg k (hl.1.mem_iff.mp hkl)).1) _ (fun _ => rfl)
      · intro k hk
        obtain ⟨k', hk', rfl⟩ := List.mem_map.mp hk
        exact (hg k' (hl.1.mem_iff.mp hk')).2
      · rw [List.length_map, ord_len hl]; exact Nat.le_trans (bitsL_len b) (by decide +kernel)
      · intro s' G' D C od m f st hp hGD hbD hi' hm hGC hbC hCD
        rw [maskOf_perm (hl.1.map _)] at hi'
        exact fin_set (SV.step st).gs (gs86 SV.gs) st hp hGD hbD hi' hm hGC hbC hCD
    · cases hv
  · cases hv⟩⟩
theorem CE_setcompA (K : EnvK ns nm env) {scope : Scope} {x y : Str} {np py pos : Pos} {elt : PySem.Expr} {j iy : Nat} {k ky : NK} {F : SF PV}
    (C0 : compOk ns (nsOf scope.names) scope.names (mkCaps ns (nsOf scope.names)) = true) (hkind : scope.kind = .function) (hj : findN (nsOf scope.names) x 0 = some (j, k)) (hk : (k != .cap) = true) (hy : findN ns y 0 = some (iy, ky))
    (hel : ∀ cenv, EnvK (nsOf scope.names) (relN nm scope.names) cenv → CE c d (nsOf scope.names) cenv elt F) : CE c d ns env (.SetComp elt [⟨.Name x np, .Name y py, [], 0⟩] scope pos) (setcF j (mkCaps ns (nsOf scope.names)) iy F) := CE_setcomp K C0 hkind hj hk hy hel
end
end

section
noncomputable def CodeFn (c : Ctx0) (x : Str) : Prop := ∀ a o fd, c.mg x = some (.ref a) → c.hb.get? a = some o → o.data = .func fd → CodeF c fd.code
noncomputable def tr_spans : Σ' F : List PV → Option PV, ∀ c, Kc c → CodeFn c "_law_spans" → Gl c 2 "_law_spans" F := by
  refine' ⟨fnF 1 2 _, fun c K hc => ?_⟩
  rotate_left
  refine' (show Gl c 2 (recK 42).name (fnF 1 2 _) from ?_)
  apply Gl_defP (P := CodeF c) (dd := recK 42) K (recK_mem (by decide)) (fun a o fd h1 h2 h3 => hc a o fd h1 h2 h3) [("figures", .loc), ("spans", .loc), ("figure", .own)] ["figures"] 2 (by decide +kernel) (by decide +kernel) (by decide +kernel) (by decide +kernel)
  · intro pm cd doc Vs hl
    obtain ⟨x, rfl⟩ := List.length_eq_one_iff.mp hl
    rfl
  · intro env KE hcode
    refine' CS_cons _ _
    · apply C1_assign KE.ok (by rfl) (by rfl) (hs := by rfl)
      apply CE_set0 hcode
    · apply CS_cons
      · apply C1_for1 KE.ok (by rfl) (by decide)
        · apply CI_val
          apply CE_name KE
          rfl
        · apply CS_cons
          · apply C1_assign KE.ok (by rfl) (by rfl) (hs := by rfl)
            apply CE_bin (b := BOp_orS)
            · apply CE_name KE
              rfl
            · apply CE_setcompA KE (by decide +kernel) (by rfl) (by rfl) (by rfl) (by rfl)
              intro cenv KE'
              apply CE_bin (b := BOp_orS)
              · apply CE_name KE'
                rfl
              · apply CE_name KE'
                rfl
          · apply CS_nil
        · intro x; rfl
      · apply CS_cons
        · apply C1_ret
          apply CE_call K.toCok KE (by decide +kernel) (Gl_lenS K)
          · apply CL_cons
            · apply CE_name KE
              rfl
            · apply CL_nil
            · intros; rfl
          all_goals first | decide +kernel | rfl | (intros; rfl)
        · apply CS_nil
noncomputable def spansOk (a b e : Nat) : Bool := (tr_spans.1 [.list [.int (a : Nat), .int (b : Nat), .int (e : Nat)]]).any fun v => (aInt v).any fun i => i == ((spansN [a, b, e] : Nat) : Int)
theorem spansOk_eq {a b e : Nat} (h : spansOk a b e = true) : tr_spans.1 [.list [.int (a : Nat), .int (b : Nat), .int (e : Nat)]] = some (.int (spansN [a, b, e] : Nat)) := by
  obtain ⟨v, h1, h⟩ := (Option.any_eq_true _ _).mp h
  obtain ⟨i, h2, h⟩ := (Option.any_eq_true _ _).mp h
  rw [h1, aInt_eq h2, beq_iff_eq.mp h]
theorem fact_spans : ∀ a < 8, ∀ b < 8, ∀ e < 8, spansOk a b e = true := by decide +kernel
theorem Gl.sub {c : Ctx0} {d : Nat} {x : Str} {F F' : List PV → Option PV} (g : Gl c d x F) (h : ∀ args v, F' args = some v → F args = some v) : Gl c d x F' :=
  let ⟨V, g1, g2, g3⟩ := g.at_
  ⟨V, g1, g2, ⟨fun args v hv => g3.run args v (h args v hv)⟩⟩
theorem nat_of {a : Int} (h : 0 ≤ a) : ∃ n : Nat, a = n := ⟨a.toNat, (Int.toNat_of_nonneg h).symm⟩
theorem spans_ok (c : Ctx0) (K : Kc c) (hc : CodeFn c "_law_spans") : Gl c 2 "_law_spans" spansP := (tr_spans.2 c K hc).sub fun args v h => by
  obtain ⟨l, h1, h⟩ := bind_some h
  obtain ⟨l', h2, h⟩ := bind_some h
  obtain ⟨p, h3, h⟩ := bind_some h
  obtain ⟨a, h4, h⟩ := bind_some h
  obtain ⟨b, h5, h⟩ := bind_some h
  obtain ⟨e, h6, h⟩ := bind_some h
  rw [args1_eq h1, aList_eq h2, args3_eq h3, aInt_eq h4, aInt_eq h5, aInt_eq h6]
  by_cases q : 0 ≤ a ∧ a < 8 ∧ 0 ≤ b ∧ b < 8 ∧ 0 ≤ e ∧ e < 8
  · unfold spans3 at h
    rw [if_pos q] at h
    cases h
    obtain ⟨a, rfl⟩ := nat_of q.1
    obtain ⟨b, rfl⟩ := nat_of q.2.2.1
    obtain ⟨e, rfl⟩ := nat_of q.2.2.2.2.1
    exact spansOk_eq (fact_spans a (Int.ofNat_lt.mp q.2.1) b (Int.ofNat_lt.mp q.2.2.2.1) e (Int.ofNat_lt.mp q.2.2.2.2.2))
  · unfold spans3 at h
    rw [if_neg q] at h
    cases h
end

section
theorem cases3 {x : Nat} (h : x < 3) : x = 0 ∨ x = 1 ∨ x = 2 := by revert x; decide
theorem cases4 {x : Nat} (h : x < 4) : x = 0 ∨ x = 1 ∨ x = 2 ∨ x = 3 := by revert x; decide
theorem cases8 {x : Nat} (h : x < 8) : x = 0 ∨ x = 1 ∨ x = 2 ∨ x = 3 ∨ x = 4 ∨ x = 5 ∨ x = 6 ∨ x = 7 := by revert x; decide
theorem dm64 (n a b : Nat) (h : a ∣ b) : n % (8 * b) / 8 % a = n / 8 % a := by rw [Nat.mod_mul_right_div_self, Nat.mod_mod_of_dvd _ h]
theorem seqF_next {F G : SF Out} {Γ Γ' : List Slot} {o : Option Out} (h : F Γ = some (.next Γ')) (h2 : G Γ' = o) : seqF F G Γ = o := by
  unfold seqF; rw [h]; exact h2
theorem seqF_ret {F G : SF Out} {Γ : List Slot} {v : PV} (h : F Γ = some (.ret v)) : seqF F G Γ = some (.ret v) := by
  unfold seqF; rw [h]; rfl
theorem strsP_map : ∀ (l : List Str), strsP (l.map .str) = some l
  | [] => rfl
  | x :: l => by show (strsP (l.map .str)).map (x :: ·) = _; rw [strsP_map l]; rfl
theorem compP_one {j : Nat} {base : List Slot} {T : SF Bool} {F : SF PV} (hn : noMeth base = true) (t : PV → Bool) (f : PV → PV) : ∀ (xs : List PV), (∀ x ∈ xs, T (base.set j (.val x)) = some (t x) ∧ (t x = true → F (base.set j (.val x)) = some (f x))) →
    ∀ y, (∀ id k, y ≠ .meth id k) → compP (bd1 j) T F xs (base.set j y) = some ((xs.filter t).map f)
  | [], _, _, _ => rfl
  | x :: xs, h, y, hy => by
    obtain ⟨h1, h2⟩ := h x List.mem_cons_self
    have hb : bd1 j x (base.set j y) = base.set j (.val x) := by
      unfold bd1
      rw [clr_noMeth (noMeth_set hn hy), List.set_set]
    have ih := compP_one hn t f xs (fun z hz => h z (List.mem_cons_of_mem _ hz)) (.val x) (fun _ _ h => nomatch h)
    unfold compP
    rw [hb, h1]
    cases ht : t x with
    | true =>
      show ((F _).bind fun v => _) = _
      rw [h2 ht]
      show (compP _ _ _ _ _).map _ = _
      rw [ih, List.filter_cons_of_pos (by simpa using ht)]; rfl
    | false =>
      show compP _ _ _ _ _ = _
      rw [ih, List.filter_cons_of_neg (by simp [ht])]
theorem compP_pair {j l : Nat} {base : List Slot} {T : SF Bool} {F : SF PV} (hn : noMeth base = true) (hjl : j ≠ l) (t : PV × PV → Bool) (f : PV × PV → PV) : ∀ (xs : List (PV × PV)), (∀ x ∈ xs, T ((base.set j (.val x.1)).set l (.val x.2)) = some (t x) ∧ (t x = true → F ((base.set j (.val x.1)).set l (.val x.2)) = some (f x))) →
    ∀ y z, (∀ id k, y ≠ .meth id k) → (∀ id k, z ≠ .meth id k) → compP (bd2 j l) T F (xs.map fun x => .tuple [x.1, x.2]) ((base.set j y).set l z) = some ((xs.filter t).map f)
  | [], _, _, _, _, _ => by rfl
  | x :: xs, h, y, z, hy, hz => by
    obtain ⟨h1, h2⟩ := h x List.mem_cons_self
    have hb : bd2 j l (.tuple [x.1, x.2]) ((base.set j y).set l z) = (base.set j (.val x.1)).set l (.val x.2) := by
      show bd1 l x.2 (bd1 j x.1 _) = _
      have n1 : noMeth ((base.set j y).set l z) = true := noMeth_set (noMeth_set hn hy) hz
      have n2 : noMeth (((base.set j y).set l z).set j (.val x.1)) = true := noMeth_set n1 (fun _ _ h => by cases h)
      unfold bd1
      rw [clr_noMeth n1, clr_noMeth n2]
      rw [List.set_comm _ _ (Ne.symm hjl), List.set_set, List.set_set]
    have ih := compP_pair hn hjl t f xs (fun z hz => h z (List.mem_cons_of_mem _ hz)) (.val x.1) (.val x.2) (fun _ _ h => nomatch h) (fun _ _ h => nomatch h)
    show compP (bd2 j l) T F (.tuple [x.1, x.2] :: xs.map fun x => .tuple [x.1, x.2]) _ = _
    unfold compP
    rw [hb, h1]
    cases ht : t x with
    | true =>
      show ((F _).bind fun v => _) = _
      rw [h2 ht]
      show (compP _ _ _ _ _).map _ = _
      rw [ih, List.filter_cons_of_pos (by simpa using ht)]; rfl
    | false =>
      show compP _ _ _ _ _ = _
      rw [ih, List.filter_cons_of_neg (by simp [ht])]
theorem compF_eq {bd : PV → List Slot → List Slot} {caps : List (Option Nat)} {L : SF (List PV)} {T : SF Bool} {F : SF PV} {Γ Γ' : List Slot} {xs out : List PV} (hL : L Γ = some xs) (hlen : xs.length ≤ sizeLine) (hΓ : compΓ caps Γ = Γ') (h : compP bd T F xs Γ' = some out) : compF bd caps L T F Γ = some (.list out) := by
  unfold compF
  rw [hL]
  show (if xs.length ≤ sizeLine then _ else none) = _
  rw [if_pos hlen, hΓ, h]; rfl
theorem forP_all {bd : PV → List Slot → List Slot} {B : SF Out} (Good : List Slot → Prop) : ∀ (xs : List PV), (∀ x ∈ xs, ∀ Γ, Good Γ → ∃ Γ', B (bd x Γ) = some (.next Γ') ∧ Good Γ') → ∀ Γ, Good Γ → ∃ Γ', forP bd B xs Γ = some (.next Γ') ∧ Good Γ'
  | [], _, Γ, hg => ⟨Γ, rfl, hg⟩
  | x :: xs, h, Γ, hg => by
    obtain ⟨Γ₁, h1, g1⟩ := h x List.mem_cons_self Γ hg
    obtain ⟨Γ₂, h2, g2⟩ := forP_all Good xs (fun z hz => h z (List.mem_cons_of_mem _ hz)) Γ₁ g1
    refine ⟨Γ₂, ?_, g2⟩
    unfold forP
    rw [h1]; exact h2

theorem fnF_eq {n k : Nat} {F : SF Out} {args : List PV} {v : PV} (hn : args.length = n) (h : F (start args k) = some (.ret v)) : fnF n k F args = some v := by
  unfold fnF
  rw [if_pos hn, h]; rfl
noncomputable def nubS : List Str → List Str := fun l => l.foldl (fun a x => if a.contains x then a else a ++ [x]) []
theorem nub_aux : ∀ (l a : List Str), a.Nodup → ((l.foldl (fun a x => if a.contains x then a else a ++ [x]) a).Nodup ∧ ∀ x, x ∈ l.foldl (fun a x => if a.contains x then a else a ++ [x]) a ↔ x ∈ a ∨ x ∈ l)
  | [], a, h => ⟨h, by simp⟩
  | x :: l, a, h => by
    simp only [List.foldl_cons]
    split
    · rename_i hc
      obtain ⟨h1, h2⟩ := nub_aux l a h
      refine ⟨h1, fun y => ?_⟩
      rw [h2]
      have hx : x ∈ a := by simpa using hc
      constructor
      · rintro (q | q)
        · exact .inl q
        · exact .inr (List.mem_cons_of_mem _ q)
      · rintro (q | q)
        · exact .inl q
        · rcases List.mem_cons.mp q with rfl | q
          · exact .inl hx
          · exact .inr q
    · rename_i hc
      have hx : x ∉ a := by simpa using hc
      obtain ⟨h1, h2⟩ := nub_aux l (a ++ [x]) (by
        rw [List.nodup_append]
        exact ⟨h, by simp, fun p hp q hq => by simp at hq; subst hq; rintro rfl; exact hx hp⟩)
      refine ⟨h1, fun y => ?_⟩
      rw [h2]
      simp [or_assoc]
theorem nubS_nodup (l : List Str) : (nubS l).Nodup := (nub_aux l [] List.nodup_nil).1
theorem mem_nubS (l : List Str) (x : Str) : x ∈ nubS l ↔ x ∈ l := by
  have := (nub_aux l [] List.nodup_nil).2 x
  simpa [nubS] using this
theorem nub_len : ∀ (l a : List Str), (l.foldl (fun a x => if a.contains x then a else a ++ [x]) a).length ≤ a.length + l.length
  | [], a => Nat.le_refl _
  | x :: l, a => by
    simp only [List.foldl_cons, List.length_cons]
    split
    · have := nub_len l a; omega
    · have := nub_len l (a ++ [x]); simp only [List.length_append, List.length_singleton] at this; omega
theorem F_dedupU {l : List Str} (hl : l.length ≤ 1000) : tr_deduplicate_unhashable.1 [.list (l.map .str)] = some (.list ((nubS l).map .str)) := by
  have body : ∀ (m : List Str) (a : List Str) (t : Slot), a.length + m.length ≤ 1000 → (∀ id k, t ≠ .meth id k) → ∃ t', forP (bd1 2) (seqF (iteF (app2b notinP (rdT 2) (rdT 1)) (seqF (appF 1 (rd 2)) fun Γ => some (Out.next Γ)) fun Γ => some (Out.next Γ)) fun Γ => some (Out.next Γ)) (m.map .str) [.val (.list (l.map .str)), .own (a.map .str), t]
      = some (.next [.val (.list (l.map .str)), .own ((m.foldl (fun a x => if a.contains x then a else a ++ [x]) a).map .str), t']) := by
    intro m
    induction m with
    | nil => intro a t _ _; exact ⟨t, rfl⟩
    | cons x m ih =>
      intro a t hlen ht
      have hb : bd1 2 (.str x) [.val (.list (l.map .str)), .own (a.map .str), t] = [.val (.list (l.map .str)), .own (a.map .str), .val (.str x)] := by
        cases t with
        | meth id k => exact absurd rfl (ht id k)
        | _ => rfl
      have hT : app2b notinP (rdT 2) (rdT 1) [.val (.list (l.map .str)), .own (a.map .str), .val (.str x)] = some (!a.contains x) := by
        show notinP (.str x) (.list (a.map .str)) = _
        show (strsP (a.map .str)).map _ = _
        rw [strsP_map]; rfl
      simp only [List.length_cons] at hlen
      simp only [List.map_cons, List.foldl_cons]
      unfold forP
      rw [hb]
      cases hc : a.contains x with
      | true =>
        rw [hc] at hT
        obtain ⟨t', e⟩ := ih a (.val (.str x)) (by omega) (fun _ _ h => nomatch h)
        refine ⟨t', ?_⟩
        have : seqF (iteF (app2b notinP (rdT 2) (rdT 1)) (seqF (appF 1 (rd 2)) fun Γ => some (Out.next Γ)) fun Γ => some (Out.next Γ)) (fun Γ => some (Out.next Γ)) [.val (.list (l.map .str)), .own (a.map .str), .val (.str x)] = some (.next [.val (.list (l.map .str)), .own (a.map .str), .val (.str x)]) := by
          refine seqF_next (Γ' := [.val (.list (l.map .str)), .own (a.map .str), .val (.str x)]) ?_ rfl
          unfold iteF; rw [hT]; rfl
        rw [this]
        simpa using e
      | false =>
        rw [hc] at hT
        obtain ⟨t', e⟩ := ih (a ++ [x]) (.val (.str x)) (by simp; omega) (fun _ _ h => nomatch h)
        refine ⟨t', ?_⟩
        have : seqF (iteF (app2b notinP (rdT 2) (rdT 1)) (seqF (appF 1 (rd 2)) fun Γ => some (Out.next Γ)) fun Γ => some (Out.next Γ)) (fun Γ => some (Out.next Γ)) [.val (.list (l.map .str)), .own (a.map .str), .val (.str x)] = some (.next [.val (.list (l.map .str)), .own ((a ++ [x]).map .str), .val (.str x)]) := by
          refine seqF_next (Γ' := [.val (.list (l.map .str)), .own ((a ++ [x]).map .str), .val (.str x)]) ?_ rfl
          unfold iteF; rw [hT]
          refine seqF_next (Γ' := [.val (.list (l.map .str)), .own ((a ++ [x]).map .str), .val (.str x)]) ?_ rfl
          show (if (a.map PV.str).length ≤ sizeLine then _ else none) = _
          rw [if_pos (by simp [sizeLine]; omega)]
          simp
        rw [this]
        simpa using e
  obtain ⟨t', e⟩ := body l [] .un (by simpa using hl) (fun _ _ h => nomatch h)
  unfold tr_deduplicate_unhashable
  dsimp only
  exact fnF_eq rfl (seqF_next (Γ' := [.val (.list (l.map .str)), .own [], .un]) rfl (seqF_next (Γ' := [.val (.list (l.map .str)), .own ((nubS l).map .str), t']) e (seqF_ret (v := .list ((nubS l).map .str)) rfl)))
end

section
noncomputable def cmpS (X Y : List Str) : Bool := match remAll (nubS Y) (nubS X) with
  | some t => t.isEmpty
  | none => false
theorem remAll_mem : ∀ (es ts t : List Str), ts.Nodup → es.Nodup → remAll ts es = some t → (∀ x ∈ es, x ∈ ts) ∧ ∀ x, x ∈ t ↔ x ∈ ts ∧ x ∉ es
  | [], ts, t, _, _, h => by cases h; simp
  | e :: es, ts, t, ht, he, h => by
    obtain ⟨he1, he2⟩ := List.nodup_cons.mp he
    have h' : (if e ∈ ts then remAll (ts.erase e) es else none) = some t := h
    split at h'
    · rename_i hm
      obtain ⟨k1, k2⟩ := remAll_mem es (ts.erase e) t (ht.erase e) he2 h'
      refine ⟨fun x hx => ?_, fun x => ?_⟩
      · rcases List.mem_cons.mp hx with rfl | hx
        · exact hm
        · exact List.mem_of_mem_erase (k1 x hx)
      · rw [k2, ht.mem_erase_iff]
        simp only [List.mem_cons, not_or]
        constructor
        · rintro ⟨⟨a, b⟩, d⟩; exact ⟨b, a, d⟩
        · rintro ⟨a, b, d⟩; exact ⟨⟨b, a⟩, d⟩
    · cases h'
theorem remAll_some : ∀ (es ts : List Str), ts.Nodup → es.Nodup → (∀ x ∈ es, x ∈ ts) → ∃ t, remAll ts es = some t
  | [], ts, _, _, _ => ⟨ts, rfl⟩
  | e :: es, ts, ht, he, h => by
    obtain ⟨he1, he2⟩ := List.nodup_cons.mp he
    obtain ⟨t, e'⟩ := remAll_some es (ts.erase e) (ht.erase e) he2 fun x hx => by
      rw [ht.mem_erase_iff]
      exact ⟨fun q => he1 (q ▸ hx), h x (List.mem_cons_of_mem _ hx)⟩
    refine ⟨t, ?_⟩
    show (if e ∈ ts then remAll (ts.erase e) es else none) = some t
    rw [if_pos (h e List.mem_cons_self)]; exact e'
theorem cmpS_iff {X Y : List Str} : cmpS X Y = true ↔ ∀ x, x ∈ X ↔ x ∈ Y := by
  unfold cmpS
  constructor
  · intro h
    cases e : remAll (nubS Y) (nubS X) with
    | none => rw [e] at h; cases h
    | some t =>
      rw [e] at h
      have ht : t = [] := by simpa using h
      subst ht
      obtain ⟨k1, k2⟩ := remAll_mem _ _ _ (nubS_nodup Y) (nubS_nodup X) e
      intro x
      rw [← mem_nubS X, ← mem_nubS Y]
      refine ⟨k1 x, fun hy => ?_⟩
      by_cases hx : x ∈ nubS X
      · exact hx
      · exact absurd ((k2 x).mpr ⟨hy, hx⟩) (by simp)
  · intro h
    obtain ⟨t, e⟩ := remAll_some (nubS X) (nubS Y) (nubS_nodup Y) (nubS_nodup X) fun x hx => (mem_nubS Y x).mpr ((h x).mp ((mem_nubS X x).mp hx))
    rw [e]
    obtain ⟨k1, k2⟩ := remAll_mem _ _ _ (nubS_nodup Y) (nubS_nodup X) e
    have : t = [] := by
      apply List.eq_nil_iff_forall_not_mem.mpr
      intro x hx
      obtain ⟨a, b⟩ := (k2 x).mp hx
      exact b ((mem_nubS X x).mpr ((h x).mpr ((mem_nubS Y x).mp a)))
    simp [this]
theorem nubS_len (l : List Str) : (nubS l).length ≤ l.length := by
  have := nub_len l []
  simpa [nubS] using this
theorem F_compare {X Y : List Str} (hX : X.length ≤ 1000) (hY : Y.length ≤ 1000) : tr_compare_args_orderless.1 [.list (X.map .str), .list (Y.map .str)] = some (.bool (cmpS X Y)) := by
  unfold tr_compare_args_orderless
  dsimp only
  have lX := nubS_len X
  have lY := nubS_len Y
  refine fnF_eq rfl ?_
  refine seqF_next (Γ' := [.val (.list (X.map .str)), .val (.list (Y.map .str)), .val (.list ((nubS X).map .str)), .un, .un, .un]) ?_ ?_
  · show Option.map _ (tr_deduplicate_unhashable.1 [.list (X.map .str)]) = _
    rw [F_dedupU hX]; rfl
  refine seqF_next (Γ' := [.val (.list (X.map .str)), .val (.list (Y.map .str)), .val (.list ((nubS X).map .str)), .val (.list ((nubS Y).map .str)), .un, .un]) ?_ ?_
  · show Option.map _ (tr_deduplicate_unhashable.1 [.list (Y.map .str)]) = _
    rw [F_dedupU hY]; rfl
  refine seqF_next (Γ' := [.val (.list (X.map .str)), .val (.list (Y.map .str)), .val (.list ((nubS X).map .str)), .val (.list ((nubS Y).map .str)), .own ((nubS Y).map .str), .un]) ?_ ?_
  · show (if ((nubS Y).map PV.str).length ≤ sizeLine then _ else none) = _
    rw [if_pos (by simp [sizeLine]; omega)]; rfl
  have ht : ∀ o, (match remAll (nubS Y) (nubS X) with
      | some ts' => some (Out.next [.val (.list (X.map .str)), .val (.list (Y.map .str)), .val (.list ((nubS X).map .str)), .val (.list ((nubS Y).map .str)), .own (ts'.map .str), .un])
      | none => some (.ret (.bool false))) = o → tryremF 2 4 5 [.val (.list (X.map .str)), .val (.list (Y.map .str)), .val (.list ((nubS X).map .str)), .val (.list ((nubS Y).map .str)), .own ((nubS Y).map .str), .un] = o := by
    intro o ho
    rw [← ho]
    show ((strsP ((nubS X).map .str)).bind fun es => (strsP ((nubS Y).map .str)).bind fun ts => _) = _
    rw [strsP_map, strsP_map]
    show (if _ then _ else none) = _
    rw [if_pos ⟨rfl, by decide, by unfold sizeLine; omega, by simp⟩]
    cases remAll (nubS Y) (nubS X) with
    | some t => rfl
    | none => rfl
  cases e : remAll (nubS Y) (nubS X) with
  | none =>
    have hc : cmpS X Y = false := by unfold cmpS; rw [e]
    rw [hc]
    exact seqF_ret (ht _ (by rw [e]))
  | some t =>
    have hc : cmpS X Y = t.isEmpty := by unfold cmpS; rw [e]
    rw [hc]
    have hlt : t.length ≤ (nubS Y).length := by
      have key : ∀ (es ts t : List Str), remAll ts es = some t → t.length ≤ ts.length := by
        intro es
        induction es with
        | nil => intro ts t h; cases h; exact Nat.le_refl _
        | cons x es ih =>
          intro ts t h
          have h' : (if x ∈ ts then remAll (ts.erase x) es else none) = some t := h
          split at h'
          · exact Nat.le_trans (ih _ _ h') List.length_erase_le
          · cases h'
      exact key _ _ _ e
    refine seqF_next (ht _ (by rw [e])) ?_
    refine seqF_ret ?_
    show Option.map Out.ret (((truth (.list (t.map .str)))).map fun b => .bool (!b)) = _
    show Option.map Out.ret ((if (t.map PV.str).length < sizeLine then some (!(t.map PV.str).isEmpty) else none).map fun b => .bool (!b)) = _
    rw [if_pos (by simp [sizeLine]; omega)]
    cases t <;> rfl
end

section
noncomputable def tabE (L : Nat → List Str) : Nat → List Str → List (Str × PV)
  | _, [] => []
  | n, c :: cs => (c, .list ((L n).map .str)) :: tabE L (n + 1) cs
theorem tabE_find (L : Nat → List Str) : ∀ (C : List Str) (n i : Nat) (c : Str), C.Nodup → C[i]? = some c → findD (tabE L n C) c = some (.list ((L (n + i)).map .str))
  | [], _, _, _, _, h => by simp at h
  | x :: C, n, 0, c, _, h => by
    simp only [List.getElem?_cons_zero, Option.some.injEq] at h
    subst h
    show (if x = x then _ else _) = _
    rw [if_pos rfl]; rfl
  | x :: C, n, i + 1, c, nd, h => by
    obtain ⟨h1, h2⟩ := List.nodup_cons.mp nd
    have hc : C[i]? = some c := by simpa using h
    have hne : x ≠ c := fun q => h1 (q ▸ List.mem_of_getElem? hc)
    show (if x = c then _ else _) = _
    rw [if_neg hne, tabE_find L C (n + 1) i c h2 hc, show n + 1 + i = n + (i + 1) by omega]
theorem tabE_keys (L : Nat → List Str) : ∀ (C : List Str) (n : Nat), (tabE L n C).map (fun e => PV.str e.1) = C.map .str
  | [], _ => rfl
  | x :: C, n => by simp [tabE, tabE_keys L C (n + 1)]
theorem tabE_len (L : Nat → List Str) : ∀ (C : List Str) (n : Nat), (tabE L n C).length = C.length
  | [], _ => rfl
  | x :: C, n => by simp [tabE, tabE_len L C (n + 1)]
noncomputable def mix (a b e : Bool) : Nat := a.toNat + 2 * b.toNat + 4 * e.toNat
noncomputable def sel (n0 n1 n2 : Str) (a b e : Bool) : List Str := (if a then [n0] else []) ++ ((if b then [n1] else []) ++ (if e then [n2] else []))
structure Sys (n0 n1 n2 : Str) (C : List Str) : Prop where
  nd : [n0, n1, n2].Nodup
  len : C.length = 8
  ndC : C.Nodup
  join : ∀ a b e, ∃ c, C[mix a b e]? = some c ∧ joinP [.str "", .list ((sel n0 n1 n2 a b e).map .str)] = some (.str c)
noncomputable def mk (n0 n1 n2 : Str) (X : List Str) : Nat := mix (X.contains n0) (X.contains n1) (X.contains n2)
theorem mix_not (a b e : Bool) : mix (!a) (!b) (!e) = 7 - mix a b e := by cases a <;> cases b <;> cases e <;> rfl
theorem F_over {n0 n1 n2 : Str} {C X : List Str} {L : Nat → List Str} (S : Sys n0 n1 n2 C) : tr_law_over.1 [.list (X.map .str), .list ([n0, n1, n2].map .str), .dict (tabE L 0 C)] = some (.list ((L (7 - mk n0 n1 n2 X)).map .str)) := by
  unfold tr_law_over
  dsimp only
  refine fnF_eq rfl (seqF_ret ?_)
  obtain ⟨c, hc, hj⟩ := S.join (!X.contains n0) (!X.contains n1) (!X.contains n2)
  rw [mix_not] at hc
  have hfil : ([n0, n1, n2].map PV.str).filter (fun v => match v with | .str x => !X.contains x | _ => false) = (sel n0 n1 n2 (!X.contains n0) (!X.contains n1) (!X.contains n2)).map .str := by
    cases h0 : X.contains n0 <;> cases h1 : X.contains n1 <;> cases h2 : X.contains n2 <;> simp only [List.map_cons, List.map_nil, List.filter_cons, List.filter_nil, h0, h1, h2] <;> rfl
  have comp : ∀ caps (hcaps : caps = [none, some 0]), compF (bd1 0) caps (fun Γ => (rd (0 + 1) Γ).bind itemsP) (app2b notinP (rdT 0) (rdT (0 + 1))) (rd 0) (start [.list (X.map .str), .list ([n0, n1, n2].map .str), .dict (tabE L 0 C)] 0) = some (.list ((sel n0 n1 n2 (!X.contains n0) (!X.contains n1) (!X.contains n2)).map .str)) := by
    rintro caps rfl
    refine compF_eq (xs := [n0, n1, n2].map .str) (Γ' := [.un, .val (.list (X.map .str))]) rfl (by simp [sizeLine]) rfl ?_
    have := compP_one (j := 0) (base := [.un, .val (.list (X.map .str))]) (T := app2b notinP (rdT 0) (rdT (0 + 1))) (F := rd 0) rfl (fun v => match v with | .str x => !X.contains x | _ => false) id ([n0, n1, n2].map .str) (fun x hx => by
      obtain ⟨y, _, rfl⟩ := List.mem_map.mp hx
      refine ⟨?_, fun _ => rfl⟩
      show (strsP (X.map .str)).map _ = _
      rw [strsP_map]; rfl) .un (fun _ _ h => nomatch h)
    rw [List.map_id, hfil] at this
    exact this
  show Option.map Out.ret (app2 item2 (rd 2) (strThenT (fun x => some (PV.str "")) (compF (bd1 0) _ _ _ _) joinP) _) = _
  unfold app2 strThenT
  show Option.map Out.ret (Option.bind (some (PV.dict (tabE L 0 C))) fun a => Option.bind (Option.bind (some (PV.str "")) _) fun b => item2 a b) = _
  simp only [Option.bind_some]
  rw [comp _ (by decide +kernel)]
  simp only [Option.bind_some]
  rw [hj]
  show Option.map Out.ret (findD (tabE L 0 C) c) = _
  rw [tabE_find L C 0 _ c S.ndC hc, Nat.zero_add]; rfl
end

section
theorem iteF_true {α : Type} {T : SF Bool} {F G : SF α} {Γ : List Slot} {o : Option α} (h : T Γ = some true) (h2 : F Γ = o) : iteF T F G Γ = o := by
  unfold iteF; rw [h]; exact h2
theorem iteF_false {α : Type} {T : SF Bool} {F G : SF α} {Γ : List Slot} {o : Option α} (h : T Γ = some false) (h2 : G Γ = o) : iteF T F G Γ = o := by
  unfold iteF; rw [h]; exact h2
theorem app2_eq {f : PV → PV → Option PV} {F G : SF PV} {Γ : List Slot} {a b : PV} (h1 : F Γ = some a) (h2 : G Γ = some b) : app2 f F G Γ = f a b := by
  unfold app2; rw [h1]; show Option.bind (G Γ) _ = _; rw [h2]; rfl
theorem app2b_eq {f : PV → PV → Option Bool} {F G : SF PV} {Γ : List Slot} {a b : PV} (h1 : F Γ = some a) (h2 : G Γ = some b) : app2b f F G Γ = f a b := by
  unfold app2b; rw [h1]; show Option.bind (G Γ) _ = _; rw [h2]; rfl
noncomputable abbrev LV (X : List Str) : PV := .list (X.map .str)
noncomputable def notM (sl : Slot) : Prop := ∀ id j, sl ≠ .meth id j
theorem notM_val {v : PV} : notM (.val v) := fun _ _ h => nomatch h
theorem notM_un : notM .un := fun _ _ h => nomatch h
theorem F_known {X : List Str} {Ks : List (List Str)} (hX : X.length ≤ 1000) (hK : ∀ K ∈ Ks, K.length ≤ 1000) : tr_law_known.1 [LV X, .list (Ks.map LV)] = some (.bool (Ks.any (cmpS X))) := by
  unfold tr_law_known
  dsimp only
  refine fnF_eq rfl ?_
  generalize hB : (seqF (iteF _ _ _) _ : SF Out) = B
  have key : ∀ (Ks' : List (List Str)) (t : Slot), notM t → (∀ K ∈ Ks', K.length ≤ 1000) → (Ks'.any (cmpS X) = true → forP (bd1 2) B (Ks'.map LV) [.val (LV X), .val (.list (Ks.map LV)), t] = some (.ret (.bool true))) ∧ (Ks'.any (cmpS X) = false → ∃ t', forP (bd1 2) B (Ks'.map LV) [.val (LV X), .val (.list (Ks.map LV)), t] = some (.next [.val (LV X), .val (.list (Ks.map LV)), t'])) := by
    intro Ks'
    induction Ks' with
    | nil => intro t _ _; exact ⟨fun h => by simp at h, fun _ => ⟨t, rfl⟩⟩
    | cons K Ks' ih =>
      intro t ht hK'
      have hb : bd1 2 (LV K) [.val (LV X), .val (.list (Ks.map LV)), t] = [.val (LV X), .val (.list (Ks.map LV)), .val (LV K)] := by
        cases t with
        | meth id k => exact absurd rfl (ht id k)
        | _ => rfl
      have hT : B [.val (LV X), .val (.list (Ks.map LV)), .val (LV K)] = if cmpS X K then some (.ret (.bool true)) else some (.next [.val (LV X), .val (.list (Ks.map LV)), .val (LV K)]) := by
        subst hB
        have e := F_compare hX (hK' K List.mem_cons_self)
        have e2 : ((consF (rd 0) (consF (rd (0 + 1 + 1)) fun x => some []) [.val (LV X), .val (.list (Ks.map LV)), .val (LV K)]).bind tr_compare_args_orderless.1).bind truth = some (cmpS X K) := by
          show (tr_compare_args_orderless.1 [LV X, LV K]).bind truth = _
          rw [e]; rfl
        cases hc : cmpS X K with
        | true =>
          rw [hc] at e2
          exact seqF_ret (iteF_true e2 rfl)
        | false =>
          rw [hc] at e2
          exact seqF_next (Γ' := [.val (LV X), .val (.list (Ks.map LV)), .val (LV K)]) (iteF_false e2 rfl) rfl
      obtain ⟨i1, i2⟩ := ih (.val (LV K)) notM_val fun K hK => hK' K (List.mem_cons_of_mem _ hK)
      simp only [List.any_cons, List.map_cons]
      unfold forP
      rw [hb, hT]
      cases hc : cmpS X K with
      | true => exact ⟨fun _ => rfl, fun h => by simp at h⟩
      | false =>
        simp only [Bool.false_or]
        exact ⟨fun h => i1 h, fun h => i2 h⟩
  obtain ⟨k1, k2⟩ := key Ks .un notM_un hK
  cases hc : Ks.any (cmpS X) with
  | true => exact seqF_ret (k1 hc)
  | false =>
    obtain ⟨t', e⟩ := k2 hc
    exact seqF_next e (seqF_ret rfl)

noncomputable def kindsL (L : Nat → List Str) (ns : List Nat) : List (List Str) := ns.foldl (fun ks i => if ks.any (cmpS (L i)) then ks else L i :: ks) []
theorem kinds_aux (L : Nat → List Str) (hL : ∀ i, (L i).length ≤ 1000) : ∀ (ns : List Nat) (ks : List (List Str)), (∀ K ∈ ks, K.length ≤ 1000) → (ns.foldl (fun ks i => if ks.any (cmpS (L i)) then ks else L i :: ks) ks).length ≤ ks.length + ns.length
  | [], ks, _ => Nat.le_refl _
  | i :: ns, ks, h => by
    simp only [List.foldl_cons, List.length_cons]
    split
    · have := kinds_aux L hL ns ks h; omega
    · have := kinds_aux L hL ns (L i :: ks) (fun K hK => by
        rcases List.mem_cons.mp hK with rfl | hK
        · exact hL i
        · exact h K hK)
      simp only [List.length_cons] at this; omega
set_option maxHeartbeats 2000000 in
theorem F_kinds {C : List Str} {L : Nat → List Str} (ndC : C.Nodup) (hC : C.length = 8) (hL : ∀ i, (L i).length ≤ 1000) : tr_law_kinds.1 [.dict (tabE L 0 C)] = some (.int ((kindsL L (List.range 8)).length)) := by
  unfold tr_law_kinds
  dsimp only
  refine fnF_eq rfl ?_
  refine seqF_next (Γ' := [.val (.dict (tabE L 0 C)), .val (.list []), .un]) rfl ?_
  generalize hB : (seqF (iteF _ _ _) _ : SF Out) = B
  have key : ∀ (m i : Nat) (ks : List (List Str)) (t : Slot), i + m = 8 → notM t → ks.length ≤ i → (∀ K ∈ ks, K.length ≤ 1000) → ∃ t', forP (bd1 2) B ((C.drop i).map .str) [.val (.dict (tabE L 0 C)), .val (.list (ks.map LV)), t]
      = some (.next [.val (.dict (tabE L 0 C)), .val (.list ((((List.range' i m).foldl (fun ks i => if ks.any (cmpS (L i)) then ks else L i :: ks) ks)).map LV)), t']) := by
    intro m
    induction m with
    | zero =>
      intro i ks t hi _ _ _
      refine ⟨t, ?_⟩
      rw [List.drop_eq_nil_of_le (by omega)]; rfl
    | succ m ih =>
      intro i ks t hi ht hks hK
      have hlt : i < C.length := by omega
      obtain ⟨cc, hcc⟩ : ∃ cc, C[i]? = some cc := ⟨C[i], List.getElem?_eq_getElem hlt⟩
      have hdrop : C.drop i = cc :: C.drop (i + 1) := by
        rw [List.drop_eq_getElem_cons hlt]
        congr 1
        exact (List.getElem?_eq_some_iff.mp hcc).2
      have hf : findD (tabE L 0 C) cc = some (LV (L i)) := by
        rw [tabE_find L C 0 i cc ndC hcc, Nat.zero_add]
      have hb : bd1 2 (.str cc) [.val (.dict (tabE L 0 C)), .val (.list (ks.map LV)), t] = [.val (.dict (tabE L 0 C)), .val (.list (ks.map LV)), .val (.str cc)] := by
        cases t with
        | meth id k => exact absurd rfl (ht id k)
        | _ => rfl
      have e2 : ((consF (app2 item2 (rd 0) (rd (0 + 1 + 1))) (consF (rd (0 + 1)) fun x => some []) [.val (.dict (tabE L 0 C)), .val (.list (ks.map LV)), .val (.str cc)]).bind tr_law_known.1).bind truth = some (ks.any (cmpS (L i))) := by
        have e1 : consF (app2 item2 (rd 0) (rd (0 + 1 + 1))) (consF (rd (0 + 1)) fun x => some []) [.val (.dict (tabE L 0 C)), .val (.list (ks.map LV)), .val (.str cc)] = some [LV (L i), .list (ks.map LV)] := by
          show Option.bind (findD (tabE L 0 C) cc) _ = _
          rw [hf]; rfl
        rw [e1]
        show (tr_law_known.1 [LV (L i), .list (ks.map LV)]).bind truth = _
        rw [F_known (hL i) hK]; rfl
      have hBt : B [.val (.dict (tabE L 0 C)), .val (.list (ks.map LV)), .val (.str cc)] = some (.next [.val (.dict (tabE L 0 C)), .val (.list ((if ks.any (cmpS (L i)) then ks else L i :: ks).map LV)), .val (.str cc)]) := by
        subst hB
        cases hc : ks.any (cmpS (L i)) with
        | true =>
          rw [hc] at e2
          exact seqF_next (Γ' := [.val (.dict (tabE L 0 C)), .val (.list (ks.map LV)), .val (.str cc)]) (iteF_false (congrArg (Option.map (!·)) e2) rfl) rfl
        | false =>
          rw [hc] at e2
          refine seqF_next (Γ' := [.val (.dict (tabE L 0 C)), .val (.list ((L i :: ks).map LV)), .val (.str cc)]) (iteF_true (congrArg (Option.map (!·)) e2) ?_) rfl
          refine seqF_next (Γ' := [.val (.dict (tabE L 0 C)), .val (.list ((L i :: ks).map LV)), .val (.str cc)]) ?_ rfl
          have e3 : (consF (app2 item2 (rd 0) (rd (0 + 1 + 1))) (fun x => some []) [.val (.dict (tabE L 0 C)), .val (.list (ks.map LV)), .val (.str cc)]) = some [LV (L i)] := by
            show Option.bind (findD (tabE L 0 C) cc) _ = _
            rw [hf]; rfl
          show Option.map _ (app2 addP _ _ _) = _
          rw [app2_eq (a := .list [LV (L i)]) (b := .list (ks.map LV)) (by show Option.bind (consF _ _ _) _ = _; rw [e3]; rfl) rfl]
          show Option.map _ (if [LV (L i)].length + (ks.map LV).length ≤ sizeLine then _ else none) = _
          rw [if_pos (by simp [sizeLine]; omega)]; rfl
      obtain ⟨t', e⟩ := ih (i + 1) (if ks.any (cmpS (L i)) then ks else L i :: ks) (.val (.str cc)) (by omega) notM_val (by split; (omega); (simp only [List.length_cons]; omega)) (fun K hK' => by
        split at hK'
        · exact hK K hK'
        · rcases List.mem_cons.mp hK' with rfl | hK'
          · exact hL i
          · exact hK K hK')
      refine ⟨t', ?_⟩
      rw [hdrop]
      simp only [List.map_cons]
      unfold forP
      rw [hb, hBt]
      rw [List.range'_succ, List.foldl_cons]
      exact e
  obtain ⟨t', e⟩ := key 8 0 [] .un rfl notM_un (Nat.le_refl _) (fun _ h => by simp at h)
  have hloop : forF (bd1 (0 + 1 + 1)) (fun Γ => (rd 0 Γ).bind itemsP) B [.val (.dict (tabE L 0 C)), .val (.list []), .un] = some (.next [.val (.dict (tabE L 0 C)), .val (.list ((kindsL L (List.range 8)).map LV)), t']) := by
    show Option.bind (if (tabE L 0 C).length < sizeLine then some ((tabE L 0 C).map fun e => PV.str e.1) else none) _ = _
    rw [if_pos (by rw [tabE_len, hC]; decide), tabE_keys]
    rw [List.drop_zero] at e
    rw [← List.range_eq_range'] at e
    exact e
  refine seqF_next hloop (seqF_ret ?_)
  have hlen : (kindsL L (List.range 8)).length ≤ 8 := by
    have := kinds_aux L hL (List.range 8) [] (fun _ h => by simp at h)
    rw [List.length_range] at this
    exact this
  generalize kindsL L (List.range 8) = Ks at hlen ⊢
  show Option.map Out.ret (if (Ks.map LV).length ≤ sizeLine then some (.int ((Ks.map LV).length)) else none) = _
  rw [if_pos (by simp [sizeLine]; omega), List.length_map]; rfl
end

section
theorem itemsP_tab {L : Nat → List Str} {C : List Str} (hC : C.length = 8) : itemsP (.dict (tabE L 0 C)) = some (C.map .str) := by
  show (if (tabE L 0 C).length < sizeLine then some ((tabE L 0 C).map fun e => PV.str e.1) else none) = _
  rw [if_pos (by rw [tabE_len, hC]; decide), tabE_keys]
theorem F_back {n0 n1 n2 f0 f1 f2 : Str} {C1 C2 : List Str} {L1 L2 : Nat → List Str} (S2 : Sys n0 n1 n2 C2) (S1 : Sys f0 f1 f2 C1) (h1 : ∀ i, (L1 i).length ≤ 1000)
    (h : ∀ k, k < 8 → cmpS (L1 (7 - mk f0 f1 f2 (L2 (7 - mk n0 n1 n2 (L1 k))))) (L1 k) = true) :
    tr_law_back.1 [.dict (tabE L1 0 C1), LV [n0, n1, n2], .dict (tabE L2 0 C2), LV [f0, f1, f2]] = some (.bool true) := by
  unfold tr_law_back
  dsimp only
  refine fnF_eq rfl ?_
  generalize hB : (seqF (asg _ _) _ : SF Out) = B
  obtain ⟨Γ', e, g⟩ := forP_all (bd := bd1 4) (B := B) (fun Γ => ∃ u v, notM u ∧ notM v ∧ Γ = [.val (.dict (tabE L1 0 C1)), .val (LV [n0, n1, n2]), .val (.dict (tabE L2 0 C2)), .val (LV [f0, f1, f2]), u, v]) (C1.map .str) (fun x hx Γ hΓ => by
    obtain ⟨u, v, hu, hv, rfl⟩ := hΓ
    obtain ⟨cc, hcc, rfl⟩ := List.mem_map.mp hx
    obtain ⟨k, hk, e1⟩ := List.getElem_of_mem hcc
    have e1 : C1[k]? = some cc := by rw [List.getElem?_eq_getElem hk, e1]
    have hk8 : k < 8 := S1.len ▸ hk
    have hf : findD (tabE L1 0 C1) cc = some (LV (L1 k)) := by rw [tabE_find L1 C1 0 k cc S1.ndC e1, Nat.zero_add]
    refine ⟨[.val (.dict (tabE L1 0 C1)), .val (LV [n0, n1, n2]), .val (.dict (tabE L2 0 C2)), .val (LV [f0, f1, f2]), .val (.str cc), .val (LV (L2 (7 - mk n0 n1 n2 (L1 k))))], ?_, _, _, notM_val, notM_val, rfl⟩
    have hb : bd1 4 (.str cc) [.val (.dict (tabE L1 0 C1)), .val (LV [n0, n1, n2]), .val (.dict (tabE L2 0 C2)), .val (LV [f0, f1, f2]), u, v] = [.val (.dict (tabE L1 0 C1)), .val (LV [n0, n1, n2]), .val (.dict (tabE L2 0 C2)), .val (LV [f0, f1, f2]), .val (.str cc), v] := by
      unfold bd1
      cases v with
      | meth id j => exact absurd rfl (hv id j)
      | _ => cases u <;> rfl
    rw [hb]
    subst hB
    refine seqF_next (Γ' := [.val (.dict (tabE L1 0 C1)), .val (LV [n0, n1, n2]), .val (.dict (tabE L2 0 C2)), .val (LV [f0, f1, f2]), .val (.str cc), .val (LV (L2 (7 - mk n0 n1 n2 (L1 k))))]) ?_ ?_
    · have e3 : consF (app2 item2 (rd 0) (rd 4)) (consF (rd 1) (consF (rd 2) fun x => some [])) [.val (.dict (tabE L1 0 C1)), .val (LV [n0, n1, n2]), .val (.dict (tabE L2 0 C2)), .val (LV [f0, f1, f2]), .val (.str cc), v] = some [LV (L1 k), LV [n0, n1, n2], .dict (tabE L2 0 C2)] := by
        show Option.bind (findD (tabE L1 0 C1) cc) _ = _
        rw [hf]; rfl
      show Option.map _ (Option.bind (consF (app2 item2 (rd 0) (rd 4)) (consF (rd 1) (consF (rd 2) fun x => some [])) _) tr_law_over.1) = _
      rw [e3]
      show Option.map _ (tr_law_over.1 [LV (L1 k), LV [n0, n1, n2], .dict (tabE L2 0 C2)]) = _
      rw [F_over S2]
      cases v with
      | meth id j => exact absurd rfl (hv id j)
      | _ => rfl
    · refine seqF_next (Γ' := [.val (.dict (tabE L1 0 C1)), .val (LV [n0, n1, n2]), .val (.dict (tabE L2 0 C2)), .val (LV [f0, f1, f2]), .val (.str cc), .val (LV (L2 (7 - mk n0 n1 n2 (L1 k))))]) (iteF_false ?_ rfl) rfl
      have e4 : consF (fun Γ => (consF (rd 5) (consF (rd 3) (consF (rd 0) fun x => some [])) Γ).bind tr_law_over.1) (consF (app2 item2 (rd 0) (rd 4)) fun x => some []) [.val (.dict (tabE L1 0 C1)), .val (LV [n0, n1, n2]), .val (.dict (tabE L2 0 C2)), .val (LV [f0, f1, f2]), .val (.str cc), .val (LV (L2 (7 - mk n0 n1 n2 (L1 k))))] = some [LV (L1 (7 - mk f0 f1 f2 (L2 (7 - mk n0 n1 n2 (L1 k))))), LV (L1 k)] := by
        show Option.bind (tr_law_over.1 [LV (L2 (7 - mk n0 n1 n2 (L1 k))), LV [f0, f1, f2], .dict (tabE L1 0 C1)]) _ = _
        rw [F_over S1]
        show Option.bind (Option.bind (findD (tabE L1 0 C1) cc) _) _ = _
        rw [hf]; rfl
      show Option.map (!·) (Option.bind (Option.bind (consF (fun Γ => (consF (rd 5) (consF (rd 3) (consF (rd 0) fun x => some [])) Γ).bind tr_law_over.1) (consF (app2 item2 (rd 0) (rd 4)) fun x => some []) _) tr_compare_args_orderless.1) truth) = _
      rw [e4]
      show Option.map (!·) (Option.bind (tr_compare_args_orderless.1 [LV (L1 (7 - mk f0 f1 f2 (L2 (7 - mk n0 n1 n2 (L1 k))))), LV (L1 k)]) truth) = _
      rw [F_compare (h1 _) (h1 _), h k hk8]; rfl) [.val (.dict (tabE L1 0 C1)), .val (LV [n0, n1, n2]), .val (.dict (tabE L2 0 C2)), .val (LV [f0, f1, f2]), .un, .un] ⟨.un, .un, notM_un, notM_un, rfl⟩
  refine seqF_next (Γ' := Γ') ?_ (seqF_ret rfl)
  show Option.bind (itemsP (.dict (tabE L1 0 C1))) _ = _
  rw [itemsP_tab S1.len]
  exact e

theorem putD_keys : ∀ (es : List (Str × PV)) (k : Str) (v : PV), (putD es k v).map (·.1) = if (es.map (·.1)).contains k then es.map (·.1) else es.map (·.1) ++ [k]
  | [], k, v => by simp [putD]
  | (x, u) :: es, k, v => by
    unfold putD
    by_cases h : x = k
    · subst h; simp
    · rw [if_neg h]
      have ih := putD_keys es k v
      simp only [List.map_cons, ih]
      have hc : (x :: es.map (·.1)).contains k = (es.map (·.1)).contains k := by
        rw [List.contains_cons]
        have : (k == x) = false := by simpa using fun q => h q.symm
        rw [this, Bool.false_or]
      rw [hc]
      split <;> rfl
theorem fkD_keys : ∀ (l : List Str) (es : List (Str × PV)), (fkD l es).map (·.1) = l.foldl (fun a x => if a.contains x then a else a ++ [x]) (es.map (·.1))
  | [], _ => rfl
  | k :: l, es => by
    show (fkD l (putD es k .none)).map (·.1) = _
    rw [fkD_keys l, putD_keys]; rfl
theorem F_dedup {X : List Str} (hX : X.length ≤ 1000) : tr_deduplicate.1 [LV X] = some (.dict (fkD X [])) := by
  unfold tr_deduplicate
  dsimp only
  show Option.bind (seqF _ _ _) _ = _
  have : fromkeysP (LV X) = some (.dict (fkD X [])) := by
    show (strsP (X.map .str)).bind _ = _
    rw [strsP_map]
    show (if X.length ≤ 16777216 then _ else none) = _
    rw [if_pos (by omega)]
  have e : seqF (seqF (fun Γ => Option.map Out.ret ((rd 0 Γ).bind fromkeysP)) fun Γ => some (Out.next Γ)) (fun Γ => some (Out.next Γ)) (start [LV X, .bool false] 0) = some (.ret (.dict (fkD X []))) := by
    refine seqF_ret (seqF_ret ?_)
    show Option.map Out.ret (fromkeysP (LV X)) = _
    rw [this]; rfl
  exact (congrArg (fun z => Option.bind z _) e).trans rfl
theorem sorted_gather {X : List Str} (hX : X.length < 64) : (((tr_deduplicate.1 [LV X]).bind fun v => listP2 [v]).bind fun v => sortedP [v]) = some (LV (sortS (nubS X))) := by
  rw [F_dedup (by omega)]
  have hk : (fkD X []).map (·.1) = nubS X := fkD_keys X []
  have hl : (fkD X []).length ≤ X.length := by
    have := congrArg List.length hk
    rw [List.length_map] at this
    rw [this]; exact nubS_len X
  show Option.bind (if (fkD X []).length ≤ 16777216 then some (PV.list ((fkD X []).map fun e => PV.str e.1)) else none) _ = _
  rw [if_pos (by omega)]
  have : ((fkD X []).map fun e => PV.str e.1) = (nubS X).map .str := by rw [← hk, List.map_map]; rfl
  rw [this]
  show (strsP ((nubS X).map .str)).bind _ = _
  rw [strsP_map]
  show (if (nubS X).length < 64 then _ else none) = _
  rw [if_pos (by have := nubS_len X; omega)]
end

section
theorem noMeth_cons {s : Slot} {Γ : List Slot} (h : notM s) (h2 : noMeth Γ = true) : noMeth (s :: Γ) = true := by
  unfold noMeth at *
  rw [List.all_cons, h2, Bool.and_true]
  cases s with
  | meth id j => exact absurd rfl (h id j)
  | _ => rfl
theorem forP_next {bd : PV → List Slot → List Slot} {B : SF Out} {x : PV} {xs : List PV} {Γ Γ' : List Slot} {o : Option Out} (h : B (bd x Γ) = some (.next Γ')) (h2 : forP bd B xs Γ' = o) : forP bd B (x :: xs) Γ = o := by
  unfold forP; rw [h]; exact h2
theorem bd2_noMeth {j l : Nat} {p q : PV} {Γ : List Slot} (h : noMeth Γ = true) : bd2 j l (.tuple [p, q]) Γ = (Γ.set j (.val p)).set l (.val q) := by
  show bd1 l q (bd1 j p Γ) = _
  unfold bd1
  rw [clr_noMeth h, clr_noMeth (noMeth_set h (notM_val (v := p)))]
theorem asg_noMeth {i : Nat} {F : SF PV} {Γ : List Slot} {v : PV} (h : noMeth Γ = true) (e : F Γ = some v) : asg i F Γ = some (.next (Γ.set i (.val v))) := by
  unfold asg; rw [e]; show some (Out.next ((clr i Γ).set i _)) = _; rw [clr_noMeth h]
noncomputable def stepT (t a k j : Nat) : Option PV := app2 orP (rd 0) (app2 mulP (rd 1) (app2 modP (app2 divP (rd 2) (app2 powP (fun _ => some (.int 2)) (rd 3))) fun _ => some (.int 2))) [.val (.int t), .val (.int a), .val (.int k), .val (.int j)]
set_option tactic.hygienic true in
theorem stepT_eq {t a k j : Nat} (ht : t < 8) (ha : a < 8) (hk : k < 8) (hj : j < 3) : stepT t a k j = some (.int ((t ||| a * (k / 2 ^ j % 2) : Nat) : Int)) := by
  have key : ∀ t < 8, ∀ a < 8, ∀ k < 8, ∀ j < 3, (match stepT t a k j with | some (.int v) => v == ((t ||| a * (k / 2 ^ j % 2) : Nat) : Int) | _ => false) = true := by decide +kernel
  have := key t ht a ha k hk j hj
  split at this
  · rename_i v e
    rw [e, eq_of_beq this]
  · cases this
noncomputable def testT (t j : Nat) : Option Bool := (app2 modP (app2 divP (rd 0) (app2 powP (fun _ => some (.int 2)) (rd 1))) (fun _ => some (.int 2)) [.val (.int t), .val (.int j)]).bind truth
theorem testT_eq {t j : Nat} (ht : t < 8) (hj : j < 3) : testT t j = some (t.testBit j) := by
  have key : ∀ t < 8, ∀ j < 3, testT t j = some (t.testBit j) := by decide +kernel
  exact key t ht j hj
noncomputable def toldN (a0 a1 a2 k : Nat) : Nat := ((0 ||| a0 * (k / 2 ^ 0 % 2)) ||| a1 * (k / 2 ^ 1 % 2)) ||| a2 * (k / 2 ^ 2 % 2)
theorem told_lt {a0 a1 a2 k : Nat} (h0 : a0 < 8) (h1 : a1 < 8) (h2 : a2 < 8) : (0 ||| a0 * (k / 2 ^ 0 % 2)) < 8 ∧ ((0 ||| a0 * (k / 2 ^ 0 % 2)) ||| a1 * (k / 2 ^ 1 % 2)) < 8 ∧ toldN a0 a1 a2 k < 8 := by
  have m : ∀ a r : Nat, a < 8 → r < 2 → a * r < 8 := fun a r ha hr => by
    rcases r with _ | _ | r
    · simp
    · simpa using ha
    · omega
  have r : ∀ j, k / 2 ^ j % 2 < 2 := fun j => Nat.mod_lt _ (by decide)
  have o : ∀ a b : Nat, a < 8 → b < 8 → a ||| b < 8 := fun a b ha hb => Nat.or_lt_two_pow (n := 3) ha hb
  have q0 := o 0 _ (by decide) (m a0 _ h0 (r 0))
  have q1 := o _ _ q0 (m a1 _ h1 (r 1))
  exact ⟨q0, q1, o _ _ q1 (m a2 _ h2 (r 2))⟩
theorem neP_self {l : List Str} (h : l.all PyData.strOk = true) : neP (LV l) (LV l) = some false := by
  show neL (l.map .str) (l.map .str) = _
  unfold neL
  rw [strsP_map]
  show (if (l.all PyData.strOk && l.all PyData.strOk) = true then some (!(l == l)) else none) = _
  rw [h, beq_self_eq_true]
  rfl
theorem F_right {n0 n1 n2 : Str} {C : List Str} {L : Nat → List Str} {a0 a1 a2 : Nat} (ndC : C.Nodup) (hC : C.length = 8) (h0 : a0 < 8) (h1 : a1 < 8) (h2 : a2 < 8) (hL : ∀ i, (L i).length < 64)
    (hok : ∀ x ∈ [n0, n1, n2], PyData.strOk x = true)
    (hm : ∀ k, k < 8 → sortS (nubS (L k)) = sortS (sel n0 n1 n2 ((toldN a0 a1 a2 k).testBit 0) ((toldN a0 a1 a2 k).testBit 1) ((toldN a0 a1 a2 k).testBit 2))) :
    tr_law_right.1 [.dict (tabE L 0 C), .list [.int a0, .int a1, .int a2], LV [n0, n1, n2]] = some (.bool true) := by
  unfold tr_law_right
  dsimp only
  refine fnF_eq rfl ?_
  generalize hB : (seqF (asg _ _) _ : SF Out) = B
  have henum : enumL 0 (C.map .str) = C.zipIdx.map fun p => PV.tuple [.int p.2, .str p.1] := by
    have key : ∀ (C : List Str) (n : Nat), enumL n (C.map .str) = (C.zipIdx n).map fun p => PV.tuple [.int p.2, .str p.1] := by
      intro C
      induction C with
      | nil => intro n; rfl
      | cons x C ih => intro n; simp [enumL, ih (n + 1), List.zipIdx_cons]
    exact key C 0
  let T : PV := .dict (tabE L 0 C)
  let A : PV := .list [.int a0, .int a1, .int a2]
  let N : PV := LV [n0, n1, n2]
  obtain ⟨Γ', e, g⟩ := forP_all (bd := bd2 3 4) (B := B) (fun Γ => ∃ s3 s4 s5 s6 s7 s8, notM s3 ∧ notM s4 ∧ notM s5 ∧ notM s6 ∧ notM s7 ∧ notM s8 ∧ Γ = [.val T, .val A, .val N, s3, s4, s5, s6, s7, s8]) (C.zipIdx.map fun p => PV.tuple [.int p.2, .str p.1]) (fun x hx Γ hΓ => by
    obtain ⟨s3, s4, s5, s6, s7, s8, k3, k4, k5, k6, k7, k8, rfl⟩ := hΓ
    obtain ⟨⟨cc, k⟩, hcc, rfl⟩ := List.mem_map.mp hx
    have e1 : C[k]? = some cc := by
      have := List.mem_zipIdx_iff_getElem?.mp hcc
      simpa using this
    have hk8 : k < 8 := by rw [← hC]; exact (List.getElem?_eq_some_iff.mp e1).1
    have hf : findD (tabE L 0 C) cc = some (LV (L k)) := by rw [tabE_find L C 0 k cc ndC e1, Nat.zero_add]
    have hn0 : noMeth [.val T, .val A, .val N, s3, s4, s5, s6, s7, s8] = true := noMeth_cons notM_val (noMeth_cons notM_val (noMeth_cons notM_val (noMeth_cons k3 (noMeth_cons k4 (noMeth_cons k5 (noMeth_cons k6 (noMeth_cons k7 (noMeth_cons k8 rfl))))))))
    have hb : bd2 3 4 (.tuple [.int (k : Int), .str cc]) [.val T, .val A, .val N, s3, s4, s5, s6, s7, s8] = [.val T, .val A, .val N, .val (.int k), .val (.str cc), s5, s6, s7, s8] := bd2_noMeth hn0
    rw [hb]
    have hn : ∀ t s6 s7, notM s6 → notM s7 → noMeth [.val T, .val A, .val N, .val (.int k), .val (.str cc), .val t, s6, s7, s8] = true := fun t s6 s7 k6 k7 => noMeth_cons notM_val (noMeth_cons notM_val (noMeth_cons notM_val (noMeth_cons notM_val (noMeth_cons notM_val (noMeth_cons notM_val (noMeth_cons k6 (noMeth_cons k7 (noMeth_cons k8 rfl))))))))
    have hn1 : noMeth [.val T, .val A, .val N, .val (.int k), .val (.str cc), s5, s6, s7, s8] = true := noMeth_cons notM_val (noMeth_cons notM_val (noMeth_cons notM_val (noMeth_cons notM_val (noMeth_cons notM_val (noMeth_cons k5 (noMeth_cons k6 (noMeth_cons k7 (noMeth_cons k8 rfl))))))))
    obtain ⟨t0, t1, t2⟩ := told_lt (k := k) h0 h1 h2
    subst hB
    refine ⟨[.val T, .val A, .val N, .val (.int k), .val (.str cc), .val (.int (toldN a0 a1 a2 k : Nat)), .val (.int (2 : Nat)), .val (.int a2), .val (LV (sel n0 n1 n2 ((toldN a0 a1 a2 k).testBit 0) ((toldN a0 a1 a2 k).testBit 1) ((toldN a0 a1 a2 k).testBit 2)))], ?_, _, _, _, _, _, _, notM_val, notM_val, notM_val, notM_val, notM_val, notM_val, rfl⟩
    refine seqF_next (Γ' := [.val T, .val A, .val N, .val (.int k), .val (.str cc), .val (.int (0 : Nat)), s6, s7, s8]) (asg_noMeth (v := .int 0) hn1 rfl) ?_
    refine seqF_next (Γ' := [.val T, .val A, .val N, .val (.int k), .val (.str cc), .val (.int (toldN a0 a1 a2 k : Nat)), .val (.int (2 : Nat)), .val (.int a2), s8]) ?_ ?_
    · generalize hB2 : (seqF (asg _ (app2 orP _ _)) _ : SF Out) = B2
      have turn : ∀ (t a j : Nat) (u v : Slot), notM u → notM v → t < 8 → a < 8 → j < 3 → B2 (bd2 6 7 (.tuple [.int j, .int a]) [.val T, .val A, .val N, .val (.int k), .val (.str cc), .val (.int t), u, v, s8]) =
          some (.next [.val T, .val A, .val N, .val (.int k), .val (.str cc), .val (.int ((t ||| a * (k / 2 ^ j % 2) : Nat) : Int)), .val (.int j), .val (.int a), s8]) := fun t a j u v hu hv ht ha hj => by
        subst hB2
        rw [bd2_noMeth (hn _ _ _ hu hv)]
        refine seqF_next (Γ' := [.val T, .val A, .val N, .val (.int k), .val (.str cc), .val (.int ((t ||| a * (k / 2 ^ j % 2) : Nat) : Int)), .val (.int j), .val (.int a), s8]) ?_ rfl
        refine asg_noMeth (Γ := [.val T, .val A, .val N, .val (.int k), .val (.str cc), .val (.int t), .val (.int j), .val (.int a), s8]) (hn _ _ _ notM_val notM_val) ?_
        exact stepT_eq ht ha hk8 hj
      show forP (bd2 6 7) B2 [.tuple [.int (0 : Nat), .int a0], .tuple [.int (1 : Nat), .int a1], .tuple [.int (2 : Nat), .int a2]] _ = _
      exact forP_next (turn 0 a0 0 s6 s7 k6 k7 (by decide) h0 (by decide)) (forP_next (turn _ a1 1 _ _ notM_val notM_val t0 h1 (by decide)) (forP_next (turn _ a2 2 _ _ notM_val notM_val t1 h2 (by decide)) rfl))
    · refine seqF_next (Γ' := [.val T, .val A, .val N, .val (.int k), .val (.str cc), .val (.int (toldN a0 a1 a2 k : Nat)), .val (.int (2 : Nat)), .val (.int a2), .val (LV (sel n0 n1 n2 ((toldN a0 a1 a2 k).testBit 0) ((toldN a0 a1 a2 k).testBit 1) ((toldN a0 a1 a2 k).testBit 2)))]) ?_ ?_
      · have comp : ∀ caps (hcaps : caps = [none, none, some 5]), compF (bd2 0 (0 + 1)) caps (fun Γ => (consF (rd (0 + 1 + 1)) (fun x => some []) Γ).bind enumArgs2) (fun Γ => (app2 modP (app2 divP (rd (0 + 1 + 1)) (app2 powP (fun x => some (PV.int 2)) (rd 0))) (fun x => some (PV.int 2)) Γ).bind truth) (rd (0 + 1))
            [.val T, .val A, .val N, .val (.int k), .val (.str cc), .val (.int (toldN a0 a1 a2 k : Nat)), .val (.int (2 : Nat)), .val (.int a2), s8] = some (LV (sel n0 n1 n2 ((toldN a0 a1 a2 k).testBit 0) ((toldN a0 a1 a2 k).testBit 1) ((toldN a0 a1 a2 k).testBit 2))) := by
          rintro caps rfl
          generalize toldN a0 a1 a2 k = tt at t2 ⊢
          refine compF_eq (xs := [(PV.int (0 : Nat), PV.str n0), (PV.int (1 : Nat), PV.str n1), (PV.int (2 : Nat), PV.str n2)].map fun x => .tuple [x.1, x.2]) (Γ' := [.un, .un, .val (.int tt)]) rfl (by simp [sizeLine]) rfl ?_
          have := compP_pair (j := 0) (l := 1) (base := [.un, .un, .val (.int tt)]) (T := fun Γ => (app2 modP (app2 divP (rd (0 + 1 + 1)) (app2 powP (fun x => some (PV.int 2)) (rd 0))) (fun x => some (PV.int 2)) Γ).bind truth) (F := rd (0 + 1)) rfl (by decide)
            (fun x => match x.1 with | .int j => tt.testBit j.toNat | _ => false) (fun x => x.2) [(PV.int (0 : Nat), PV.str n0), (PV.int (1 : Nat), PV.str n1), (PV.int (2 : Nat), PV.str n2)] (fun x hx => by
              simp only [List.mem_cons, List.not_mem_nil, or_false] at hx
              rcases hx with rfl | rfl | rfl
              · exact ⟨testT_eq (j := 0) t2 (by decide), fun _ => rfl⟩
              · exact ⟨testT_eq (j := 1) t2 (by decide), fun _ => rfl⟩
              · exact ⟨testT_eq (j := 2) t2 (by decide), fun _ => rfl⟩) .un .un notM_un notM_un
          refine Eq.trans this ?_
          congr 1
          have q0 : ((0 : Nat) : Int).toNat = 0 := rfl
          have q1 : ((1 : Nat) : Int).toNat = 1 := rfl
          have q2 : ((2 : Nat) : Int).toNat = 2 := rfl
          cases b0 : tt.testBit 0 <;> cases b1 : tt.testBit 1 <;> cases b2 : tt.testBit 2 <;> simp only [List.filter_cons, List.filter_nil, q0, q1, q2, b0, b1, b2] <;> rfl
        show Option.map _ (compF _ _ _ _ _ _) = _
        rw [comp _ (by decide +kernel)]
        show some (Out.next ((clr 8 _).set 8 _)) = _
        rw [clr_noMeth (hn _ _ _ notM_val notM_val)]; rfl
      · refine seqF_next (Γ' := [.val T, .val A, .val N, .val (.int k), .val (.str cc), .val (.int (toldN a0 a1 a2 k : Nat)), .val (.int (2 : Nat)), .val (.int a2), .val (LV (sel n0 n1 n2 ((toldN a0 a1 a2 k).testBit 0) ((toldN a0 a1 a2 k).testBit 1) ((toldN a0 a1 a2 k).testBit 2)))]) (iteF_false ?_ rfl) rfl
        have hmk := hm k hk8
        generalize hdue : sel n0 n1 n2 ((toldN a0 a1 a2 k).testBit 0) ((toldN a0 a1 a2 k).testBit 1) ((toldN a0 a1 a2 k).testBit 2) = due at hmk ⊢
        have hdl : due.length < 64 := by
          rw [← hdue]
          unfold sel
          simp only [List.length_append]
          split <;> split <;> split <;> simp
        have hdok : ∀ x ∈ due, PyData.strOk x = true := fun x hx => hok x (by
          rw [← hdue] at hx
          unfold sel at hx
          simp only [List.mem_append] at hx
          rcases hx with hx | hx | hx <;> (split at hx <;> simp at hx) <;> simp [hx])
        have e1 : (fun Γ => (consF (fun Γ => (consF (fun Γ => (consF (app2 item2 (rd 0) (rd 4)) (fun x => some []) Γ).bind tr_deduplicate.1) (fun x => some []) Γ).bind listP2) (fun x => some []) Γ).bind sortedP) [.val T, .val A, .val N, .val (.int k), .val (.str cc), .val (.int (toldN a0 a1 a2 k : Nat)), .val (.int (2 : Nat)), .val (.int a2), .val (LV due)] = some (LV (sortS (nubS (L k)))) := by
          have e0 : consF (app2 item2 (rd 0) (rd 4)) (fun x => some []) [.val T, .val A, .val N, .val (.int k), .val (.str cc), .val (.int (toldN a0 a1 a2 k : Nat)), .val (.int (2 : Nat)), .val (.int a2), .val (LV due)] = some [LV (L k)] := by
            show Option.bind (findD (tabE L 0 C) cc) _ = _
            rw [hf]; rfl
          have sg := sorted_gather (hL k)
          show Option.bind (Option.bind (Option.bind (Option.bind (Option.bind (consF (app2 item2 (rd 0) (rd 4)) (fun x => some []) _) tr_deduplicate.1) _) listP2) _) sortedP = _
          rw [e0]
          show Option.bind (Option.bind (Option.bind (Option.bind (tr_deduplicate.1 [LV (L k)]) _) listP2) _) sortedP = _
          cases hd : tr_deduplicate.1 [LV (L k)] with
          | none => rw [hd] at sg; cases sg
          | some z =>
            rw [hd] at sg
            show Option.bind (Option.bind (listP2 [z]) _) sortedP = _
            have sg' : ((listP2 [z]).bind fun v => sortedP [v]) = some (LV (sortS (nubS (L k)))) := sg
            cases hz : listP2 [z] with
            | none => rw [hz] at sg'; cases sg'
            | some w => rw [hz] at sg'; exact sg'
        have e2 : (fun Γ => (consF (rd 8) (fun x => some []) Γ).bind sortedP) [.val T, .val A, .val N, .val (.int k), .val (.str cc), .val (.int (toldN a0 a1 a2 k : Nat)), .val (.int (2 : Nat)), .val (.int a2), .val (LV due)] = some (LV (sortS due)) := by
          show (strsP (due.map .str)).bind _ = _
          rw [strsP_map]
          show (if due.length < 64 then _ else none) = _
          rw [if_pos hdl]
        refine (app2b_eq e1 e2).trans ?_
        rw [hmk]
        exact neP_self (List.all_eq_true.mpr fun x hx => hdok x ((sortS_perm due).mem_iff.mp hx))
    ) [.val T, .val A, .val N, .un, .un, .un, .un, .un, .un] ⟨_, _, _, _, _, _, notM_un, notM_un, notM_un, notM_un, notM_un, notM_un, rfl⟩
  refine seqF_next (Γ' := Γ') ?_ (seqF_ret rfl)
  show Option.bind (some (enumL 0 ((tabE L 0 C).map fun e => PV.str e.1))) _ = _
  rw [tabE_keys, henum]
  exact e
end

section
theorem putD_new : ∀ (es : List (Str × PV)) (k : Str) (v : PV), k ∉ es.map (·.1) → putD es k v = es ++ [(k, v)]
  | [], _, _, _ => rfl
  | (x, u) :: es, k, v, h => by
    simp only [List.map_cons, List.mem_cons, not_or] at h
    unfold putD
    rw [if_neg (fun q => h.1 q.symm), putD_new es k v h.2]; rfl
theorem tabE_fst (L : Nat → List Str) : ∀ (C : List Str) (n : Nat), (tabE L n C).map (·.1) = C
  | [], _ => rfl
  | x :: C, n => by simp [tabE, tabE_fst L C (n + 1)]
theorem tabE_snoc (L : Nat → List Str) : ∀ (C : List Str) (n : Nat) (c : Str), tabE L n (C ++ [c]) = tabE L n C ++ [(c, .list ((L (n + C.length)).map .str))]
  | [], _, _ => rfl
  | x :: C, n, c => by
    simp only [List.cons_append, tabE, tabE_snoc L C (n + 1) c, List.length_cons]
    rw [show n + 1 + C.length = n + (C.length + 1) by omega]
theorem tabE_snoc0 (L : Nat → List Str) (C : List Str) (c : Str) : tabE L 0 (C ++ [c]) = tabE L 0 C ++ [(c, .list ((L C.length).map .str))] := by
  rw [tabE_snoc, Nat.zero_add]
theorem consF_eq {F : SF PV} {G : SF (List PV)} {Γ : List Slot} {a : PV} {r : List PV} (h1 : F Γ = some a) (h2 : G Γ = some r) : consF F G Γ = some (a :: r) := by
  unfold consF; rw [h1]; show Option.bind (G Γ) _ = _; rw [h2]; rfl
theorem zipL_map {α : Type} (f g : α → PV) : ∀ l : List α, zipL (l.map f) (l.map g) = l.map fun s => .tuple [f s, g s]
  | [] => rfl
  | x :: l => by simp [zipL, zipL_map f g l]
structure Places (fS nS pS : Nat → Str) : Prop where
  base : ∀ s, s < 9 → tr_basename.1 [.str (pS s)] = some (.str (nS (s % 3)))
  dir : ∀ s, s < 9 → ∃ x, tr_dirname.1 [.str (pS s)] = some (.str x) ∧ tr_basename.1 [.str x] = some (.str (fS (s / 3)))
  one : ∀ s, s < 9 → item2 (.str (pS s)) (.int 1) = some (.str (fS (s / 3)))
  three : ∀ s, s < 9 → item2 (.str (pS s)) (.int 3) = some (.str (nS (s % 3)))
structure Judged (sg : Nat → Str) (C : List Str) (turn : Int) (front behind : Str) : Prop where
  choices : tr_law_choices.1 [LV [sg 0, sg 1, sg 2]] = some (LV C)
  each : ∀ (k : Nat) (c : Str), C[k]? = some c → ∃ br ba ss, tr_law_bracket.1 [LV [sg 0, sg 1, sg 2], .str c, .int turn] = some (.str br) ∧ tr_law_judge.1 [.str front, .str br, .str behind] = some (.tuple [.bool ba, .str ss]) ∧ ∀ j, j < 3 → (Txt.contains ss (sg j) != ba) = k.testBit j

theorem F_rows {fS nS pS : Nat → Str} {C : List Str} {turn : Int} {l : List Nat} (P : Places fS nS pS) (J : Judged fS C turn "/" "/?") (hl : ∀ s ∈ l, s < 9) (hll : l.length ≤ 1000) (ndC : C.Nodup) (hC : C.length ≤ 1000) :
    tr_law_rows.1 [LV [fS 0, fS 1, fS 2], LV (l.map pS), .int turn] = some (.dict (tabE (fun k => (l.filter fun s => k.testBit (s / 3)).map fun s => nS (s % 3)) 0 C)) := by
  unfold tr_law_rows
  dsimp only
  refine fnF_eq rfl ?_
  generalize hL : (fun k : Nat => (l.filter fun s => k.testBit (s / 3)).map fun s => nS (s % 3)) = L
  let S : PV := LV [fS 0, fS 1, fS 2]
  let I : PV := LV (l.map pS)
  let B : PV := LV (l.map fun s => nS (s % 3))
  have comp1 : ∀ caps (hcaps : caps = [none]), compF (bd1 0) caps (fun Γ => (rd (0 + 1) Γ).bind itemsP) (fun x => some true) (fun Γ => (consF (rd 0) (fun x => some []) Γ).bind tr_basename.1) [.val S, .val I, .val (.int turn), .un, .un, .un, .un, .un] = some B := by
    rintro caps rfl
    refine compF_eq (xs := (l.map pS).map .str) (Γ' := [.un]) rfl (by simp [sizeLine]; omega) rfl ?_
    have := compP_one (j := 0) (base := [.un]) (T := fun _ => some true) (F := fun Γ => (consF (rd 0) (fun x => some []) Γ).bind tr_basename.1) rfl (fun _ => true) (fun v => match v with | .str x => (match l.find? fun s => pS s == x with | some s => .str (nS (s % 3)) | none => .none) | _ => .none) ((l.map pS).map .str) (fun x hx => by
      obtain ⟨y, hy, rfl⟩ := List.mem_map.mp hx
      obtain ⟨s, hs, rfl⟩ := List.mem_map.mp hy
      refine ⟨rfl, fun _ => ?_⟩
      have hfind : ∃ s', l.find? (fun t => pS t == pS s) = some s' ∧ pS s' = pS s ∧ s' < 9 := by
        cases e : l.find? (fun t => pS t == pS s) with
        | none => exact absurd (List.find?_eq_none.mp e s hs) (by simp)
        | some s' =>
          have h1 := List.find?_some e
          exact ⟨s', rfl, by simpa using h1, hl s' (List.mem_of_find?_eq_some e)⟩
      obtain ⟨s', e1, e2, e3⟩ := hfind
      show _ = some (match l.find? (fun t => pS t == pS s) with | some s => PV.str (nS (s % 3)) | none => PV.none)
      rw [e1]
      show tr_basename.1 [.str (pS s)] = some (PV.str (nS (s' % 3)))
      rw [← e2]; exact P.base s' e3) .un notM_un
    refine Eq.trans this ?_
    rw [List.filter_eq_self.mpr (fun _ _ => rfl)]
    congr 1
    show (((l.map pS).map PV.str).map _) = (l.map fun s => nS (s % 3)).map PV.str
    rw [List.map_map, List.map_map, List.map_map]
    refine List.map_congr_left fun s hs => ?_
    show (match l.find? (fun t => pS t == pS s) with | some s => PV.str (nS (s % 3)) | none => PV.none) = PV.str (nS (s % 3))
    cases e : l.find? (fun t => pS t == pS s) with
    | none => exact absurd (List.find?_eq_none.mp e s hs) (by simp)
    | some s' =>
      have h0 := List.find?_some e
      have h1 : pS s' = pS s := by simpa using h0
      have h9 := hl s' (List.mem_of_find?_eq_some e)
      have a1 := P.base s' h9
      have a2 := P.base s (hl s hs)
      rw [h1, a2] at a1
      exact (Option.some.inj a1).symm
  refine seqF_next (Γ' := [.val S, .val I, .val (.int turn), .val B, .odict [], .un, .un, .un]) ?_ ?_
  · show Option.map _ (compF _ _ _ _ _ _) = _
    refine (congrArg (Option.map _) (comp1 _ ?_)).trans rfl
    decide +kernel
  generalize hB : (seqF (fun Γ => Option.bind _ _) _ : SF Out) = Bd
  have loop : ∀ (C2 C1 : List Str) (u v w : Slot), C = C1 ++ C2 → notM u → notM v → notM w → ∃ u' v' w', forP (bd1 5) Bd (C2.map .str) [.val S, .val I, .val (.int turn), .val B, .odict (tabE L 0 C1), u, v, w] = some (.next [.val S, .val I, .val (.int turn), .val B, .odict (tabE L 0 C), u', v', w']) := by
    intro C2
    induction C2 with
    | nil => intro C1 u v w hC' _ _ _; exact ⟨u, v, w, by rw [hC', List.append_nil]; rfl⟩
    | cons c C2 ih =>
      intro C1 u v w hC' hu hv hw
      have hk : C[C1.length]? = some c := by rw [hC', List.getElem?_append_right (Nat.le_refl _), Nat.sub_self]; rfl
      obtain ⟨br, ba, ss, j1, j2, j3⟩ := J.each _ _ hk
      have hn : ∀ o u v w, (∀ id j, o ≠ Slot.meth id j) → notM u → notM v → notM w → noMeth [.val S, .val I, .val (.int turn), .val B, o, u, v, w] = true := fun o u v w ho hu hv hw => noMeth_cons notM_val (noMeth_cons notM_val (noMeth_cons notM_val (noMeth_cons notM_val (noMeth_cons ho (noMeth_cons hu (noMeth_cons hv (noMeth_cons hw rfl)))))))
      have ho : ∀ es, ∀ id j, (Slot.odict es) ≠ Slot.meth id j := fun _ _ _ h => nomatch h
      have hb : bd1 5 (.str c) [.val S, .val I, .val (.int turn), .val B, .odict (tabE L 0 C1), u, v, w] = [.val S, .val I, .val (.int turn), .val B, .odict (tabE L 0 C1), .val (.str c), v, w] := by
        unfold bd1; rw [clr_noMeth (hn _ _ _ _ (ho _) hu hv hw)]; rfl
      obtain ⟨u', v', w', e⟩ := ih (C1 ++ [c]) (.val (.str c)) (.val (.bool ba)) (.val (.str ss)) (by rw [hC', List.append_assoc]; rfl) notM_val notM_val notM_val
      refine ⟨u', v', w', ?_⟩
      refine forP_next (Γ' := [.val S, .val I, .val (.int turn), .val B, .odict (tabE L 0 (C1 ++ [c])), .val (.str c), .val (.bool ba), .val (.str ss)]) ?_ e
      rw [hb]
      subst hB
      refine seqF_next (Γ' := [.val S, .val I, .val (.int turn), .val B, .odict (tabE L 0 C1), .val (.str c), .val (.bool ba), .val (.str ss)]) ?_ ?_
      · have j1' : tr_law_bracket.1 [S, .str c, .int turn] = some (.str br) := j1
        have e3 : consF (fun x => some (PV.str "/")) (consF (fun Γ => (consF (rd 0) (consF (rd 5) (consF (rd 2) fun x => some [])) Γ).bind tr_law_bracket.1) (consF (fun x => some (PV.str "/?")) fun x => some [])) [.val S, .val I, .val (.int turn), .val B, .odict (tabE L 0 C1), .val (.str c), v, w] = some [.str "/", .str br, .str "/?"] := consF_eq rfl (consF_eq j1' rfl)
        show Option.bind (Option.bind (consF (fun x => some (PV.str "/")) (consF (fun Γ => (consF (rd 0) (consF (rd 5) (consF (rd 2) fun x => some [])) Γ).bind tr_law_bracket.1) (consF (fun x => some (PV.str "/?")) fun x => some [])) _) tr_law_judge.1) _ = _
        rw [e3]
        show Option.bind (tr_law_judge.1 [.str "/", .str br, .str "/?"]) _ = _
        rw [j2]
        show some (Out.next (bd1 7 (.str ss) (bd1 6 (.bool ba) _))) = _
        unfold bd1
        rw [clr_noMeth (hn _ _ _ _ (ho _) notM_val hv hw), clr_noMeth (noMeth_set (hn _ _ _ _ (ho _) notM_val hv hw) (notM_val (v := .bool ba)))]; rfl
      · refine seqF_next (Γ' := [.val S, .val I, .val (.int turn), .val B, .odict (tabE L 0 (C1 ++ [c])), .val (.str c), .val (.bool ba), .val (.str ss)]) ?_ rfl
        have comp2 : ∀ caps (hcaps : caps = [none, none, some 6, some 7]), compF (bd2 0 (0 + 1)) caps (fun Γ => (consF (rd (0 + 1)) (consF (rd (0 + 1 + 1 + 1)) fun x => some []) Γ).bind zipArgs)
            (app2b neP (fun Γ => Option.map PV.bool (app2b inP (app2 item2 (rd 0) fun x => some (PV.int 1)) (rdT (0 + 1 + 1 + 1)) Γ)) (rdT (0 + 1 + 1))) (rd (0 + 1)) [.val S, .val I, .val (.int turn), .val B, .odict (tabE L 0 C1), .val (.str c), .val (.bool ba), .val (.str ss)] = some (LV (L C1.length)) := by
          rintro caps rfl
          refine compF_eq (xs := (l.map fun s => (PV.str (pS s), PV.str (nS (s % 3)))).map fun x => .tuple [x.1, x.2]) (Γ' := [.un, .un, .val (.bool ba), .val (.str ss)]) ?_ (by simp [sizeLine]; omega) rfl ?_
          · show some (zipL ((l.map pS).map PV.str) ((l.map fun s => nS (s % 3)).map PV.str)) = _
            rw [List.map_map, List.map_map, List.map_map, zipL_map]; rfl
          have := compP_pair (j := 0) (l := 1) (base := [.un, .un, .val (.bool ba), .val (.str ss)]) (T := app2b neP (fun Γ => Option.map PV.bool (app2b inP (app2 item2 (rd 0) fun x => some (PV.int 1)) (rdT (0 + 1 + 1 + 1)) Γ)) (rdT (0 + 1 + 1))) (F := rd (0 + 1)) rfl (by decide)
            (fun x => match item2 x.1 (.int 1) with | some (.str y) => Txt.contains ss y != ba | _ => false) (fun x => x.2) (l.map fun s => (PV.str (pS s), PV.str (nS (s % 3)))) (fun x hx => by
              obtain ⟨s, hs, rfl⟩ := List.mem_map.mp hx
              refine ⟨?_, fun _ => rfl⟩
              have e1 := P.one s (hl s hs)
              dsimp only
              rw [e1]
              refine app2b_eq (a := .bool (Txt.contains ss (fS (s / 3)))) (b := .bool ba) ?_ rfl
              show Option.map PV.bool (app2b inP _ _ _) = _
              rw [app2b_eq (a := .str (fS (s / 3))) (b := .str ss) ?_ rfl]
              · rfl
              · exact e1) .un .un notM_un notM_un
          refine Eq.trans this ?_
          congr 1
          rw [← hL]
          dsimp only
          rw [List.filter_map, List.map_map, List.map_map]
          have hfe : (l.filter ((fun x : PV × PV => match item2 x.1 (.int 1) with | some (.str y) => Txt.contains ss y != ba | _ => false) ∘ fun s => (PV.str (pS s), PV.str (nS (s % 3))))) = l.filter fun s => C1.length.testBit (s / 3) := by
            refine List.filter_congr fun s hs => ?_
            have h9 := hl s hs
            show (match item2 (PV.str (pS s)) (.int 1) with | some (.str y) => Txt.contains ss y != ba | _ => false) = _
            rw [P.one s h9]
            exact j3 _ (by omega)
          rw [hfe]; rfl
        show Option.bind (compF _ _ _ _ _ _) _ = _
        rw [comp2 _ (by decide +kernel)]
        show (if (tabE L 0 C1).length ≤ sizeLine then _ else none) = _
        have hnew : c ∉ (tabE L 0 C1).map (·.1) := by
          rw [tabE_fst]
          rw [hC'] at ndC
          intro q
          exact (List.nodup_append.mp ndC).2.2 c q c List.mem_cons_self rfl
        rw [if_pos (by rw [tabE_len]; have := congrArg List.length hC'; simp at this; unfold sizeLine; omega), putD_new _ _ _ hnew, tabE_snoc0]; rfl
  obtain ⟨u', v', w', e⟩ := loop C [] .un .un .un rfl notM_un notM_un notM_un
  refine seqF_next (Γ' := [.val S, .val I, .val (.int turn), .val B, .odict (tabE L 0 C), u', v', w']) ?_ (seqF_ret rfl)
  show Option.bind (Option.bind (tr_law_choices.1 [S]) itemsP) _ = _
  have jc : tr_law_choices.1 [S] = some (LV C) := J.choices
  rw [jc]
  exact e

theorem F_columns {fS nS pS : Nat → Str} {C : List Str} {turn : Int} {l : List Nat} (P : Places fS nS pS) (J : Judged nS C turn "/?/" "") (hl : ∀ s ∈ l, s < 9) (hll : l.length ≤ 1000) (ndC : C.Nodup) (hC : C.length ≤ 1000) :
    tr_law_columns.1 [LV [nS 0, nS 1, nS 2], LV (l.map pS), .int turn] = some (.dict (tabE (fun k => (l.filter fun s => k.testBit (s % 3)).map fun s => fS (s / 3)) 0 C)) := by
  unfold tr_law_columns
  dsimp only
  refine fnF_eq rfl ?_
  generalize hL : (fun k : Nat => (l.filter fun s => k.testBit (s % 3)).map fun s => fS (s / 3)) = L
  let S : PV := LV [nS 0, nS 1, nS 2]
  let I : PV := LV (l.map pS)
  let B : PV := LV (l.map fun s => fS (s / 3))
  have comp1 : ∀ caps (hcaps : caps = [none]), compF (bd1 0) caps (fun Γ => (rd (0 + 1) Γ).bind itemsP) (fun x => some true) (fun Γ => (consF (fun Γ => (consF (rd 0) (fun x => some []) Γ).bind tr_dirname.1) (fun x => some []) Γ).bind tr_basename.1) [.val S, .val I, .val (.int turn), .un, .un, .un, .un, .un] = some B := by
    rintro caps rfl
    refine compF_eq (xs := (l.map pS).map .str) (Γ' := [.un]) rfl (by simp [sizeLine]; omega) rfl ?_
    have := compP_one (j := 0) (base := [.un]) (T := fun _ => some true) (F := fun Γ => (consF (fun Γ => (consF (rd 0) (fun x => some []) Γ).bind tr_dirname.1) (fun x => some []) Γ).bind tr_basename.1) rfl (fun _ => true) (fun v => match v with | .str x => (match l.find? fun s => pS s == x with | some s => .str (fS (s / 3)) | none => .none) | _ => .none) ((l.map pS).map .str) (fun x hx => by
      obtain ⟨y, hy, rfl⟩ := List.mem_map.mp hx
      obtain ⟨s, hs, rfl⟩ := List.mem_map.mp hy
      refine ⟨rfl, fun _ => ?_⟩
      have hfind : ∃ s', l.find? (fun t => pS t == pS s) = some s' ∧ pS s' = pS s ∧ s' < 9 := by
        cases e : l.find? (fun t => pS t == pS s) with
        | none => exact absurd (List.find?_eq_none.mp e s hs) (by simp)
        | some s' =>
          have h1 := List.find?_some e
          exact ⟨s', rfl, by simpa using h1, hl s' (List.mem_of_find?_eq_some e)⟩
      obtain ⟨s', e1, e2, e3⟩ := hfind
      show _ = some (match l.find? (fun t => pS t == pS s) with | some s => PV.str (fS (s / 3)) | none => PV.none)
      rw [e1]
      obtain ⟨x, b1, b2⟩ := P.dir s' e3
      show Option.bind (Option.bind (tr_dirname.1 [.str (pS s)]) _) tr_basename.1 = some (PV.str (fS (s' / 3)))
      rw [← e2, b1]; exact b2) .un notM_un
    refine Eq.trans this ?_
    rw [List.filter_eq_self.mpr (fun _ _ => rfl)]
    congr 1
    show (((l.map pS).map PV.str).map _) = (l.map fun s => fS (s / 3)).map PV.str
    rw [List.map_map, List.map_map, List.map_map]
    refine List.map_congr_left fun s hs => ?_
    show (match l.find? (fun t => pS t == pS s) with | some s => PV.str (fS (s / 3)) | none => PV.none) = PV.str (fS (s / 3))
    cases e : l.find? (fun t => pS t == pS s) with
    | none => exact absurd (List.find?_eq_none.mp e s hs) (by simp)
    | some s' =>
      have h0 := List.find?_some e
      have h1 : pS s' = pS s := by simpa using h0
      have h9 := hl s' (List.mem_of_find?_eq_some e)
      obtain ⟨x, b1, b2⟩ := P.dir s' h9
      obtain ⟨y, d1, d2⟩ := P.dir s (hl s hs)
      rw [h1, d1] at b1
      cases b1
      rw [d2] at b2
      exact (Option.some.inj b2).symm
  refine seqF_next (Γ' := [.val S, .val I, .val (.int turn), .val B, .odict [], .un, .un, .un]) ?_ ?_
  · show Option.map _ (compF _ _ _ _ _ _) = _
    refine (congrArg (Option.map _) (comp1 _ ?_)).trans rfl
    decide +kernel
  generalize hB : (seqF (fun Γ => Option.bind _ _) _ : SF Out) = Bd
  have loop : ∀ (C2 C1 : List Str) (u v w : Slot), C = C1 ++ C2 → notM u → notM v → notM w → ∃ u' v' w', forP (bd1 5) Bd (C2.map .str) [.val S, .val I, .val (.int turn), .val B, .odict (tabE L 0 C1), u, v, w] = some (.next [.val S, .val I, .val (.int turn), .val B, .odict (tabE L 0 C), u', v', w']) := by
    intro C2
    induction C2 with
    | nil => intro C1 u v w hC' _ _ _; exact ⟨u, v, w, by rw [hC', List.append_nil]; rfl⟩
    | cons c C2 ih =>
      intro C1 u v w hC' hu hv hw
      have hk : C[C1.length]? = some c := by rw [hC', List.getElem?_append_right (Nat.le_refl _), Nat.sub_self]; rfl
      obtain ⟨br, ba, ss, j1, j2, j3⟩ := J.each _ _ hk
      have hn : ∀ o u v w, (∀ id j, o ≠ Slot.meth id j) → notM u → notM v → notM w → noMeth [.val S, .val I, .val (.int turn), .val B, o, u, v, w] = true := fun o u v w ho hu hv hw => noMeth_cons notM_val (noMeth_cons notM_val (noMeth_cons notM_val (noMeth_cons notM_val (noMeth_cons ho (noMeth_cons hu (noMeth_cons hv (noMeth_cons hw rfl)))))))
      have ho : ∀ es, ∀ id j, (Slot.odict es) ≠ Slot.meth id j := fun _ _ _ h => nomatch h
      have hb : bd1 5 (.str c) [.val S, .val I, .val (.int turn), .val B, .odict (tabE L 0 C1), u, v, w] = [.val S, .val I, .val (.int turn), .val B, .odict (tabE L 0 C1), .val (.str c), v, w] := by
        unfold bd1; rw [clr_noMeth (hn _ _ _ _ (ho _) hu hv hw)]; rfl
      obtain ⟨u', v', w', e⟩ := ih (C1 ++ [c]) (.val (.str c)) (.val (.bool ba)) (.val (.str ss)) (by rw [hC', List.append_assoc]; rfl) notM_val notM_val notM_val
      refine ⟨u', v', w', ?_⟩
      refine forP_next (Γ' := [.val S, .val I, .val (.int turn), .val B, .odict (tabE L 0 (C1 ++ [c])), .val (.str c), .val (.bool ba), .val (.str ss)]) ?_ e
      rw [hb]
      subst hB
      refine seqF_next (Γ' := [.val S, .val I, .val (.int turn), .val B, .odict (tabE L 0 C1), .val (.str c), .val (.bool ba), .val (.str ss)]) ?_ ?_
      · have j1' : tr_law_bracket.1 [S, .str c, .int turn] = some (.str br) := j1
        have e3 : consF (fun x => some (PV.str "/?/")) (consF (fun Γ => (consF (rd 0) (consF (rd 5) (consF (rd 2) fun x => some [])) Γ).bind tr_law_bracket.1) (consF (fun x => some (PV.str "")) fun x => some [])) [.val S, .val I, .val (.int turn), .val B, .odict (tabE L 0 C1), .val (.str c), v, w] = some [.str "/?/", .str br, .str ""] := consF_eq rfl (consF_eq j1' rfl)
        show Option.bind (Option.bind (consF (fun x => some (PV.str "/?/")) (consF (fun Γ => (consF (rd 0) (consF (rd 5) (consF (rd 2) fun x => some [])) Γ).bind tr_law_bracket.1) (consF (fun x => some (PV.str "")) fun x => some [])) _) tr_law_judge.1) _ = _
        rw [e3]
        show Option.bind (tr_law_judge.1 [.str "/?/", .str br, .str ""]) _ = _
        rw [j2]
        show some (Out.next (bd1 7 (.str ss) (bd1 6 (.bool ba) _))) = _
        unfold bd1
        rw [clr_noMeth (hn _ _ _ _ (ho _) notM_val hv hw), clr_noMeth (noMeth_set (hn _ _ _ _ (ho _) notM_val hv hw) (notM_val (v := .bool ba)))]; rfl
      · refine seqF_next (Γ' := [.val S, .val I, .val (.int turn), .val B, .odict (tabE L 0 (C1 ++ [c])), .val (.str c), .val (.bool ba), .val (.str ss)]) ?_ rfl
        have comp2 : ∀ caps (hcaps : caps = [none, none, some 6, some 7]), compF (bd2 0 (0 + 1)) caps (fun Γ => (consF (rd (0 + 1)) (consF (rd (0 + 1 + 1 + 1)) fun x => some []) Γ).bind zipArgs)
            (app2b neP (fun Γ => Option.map PV.bool (app2b inP (app2 item2 (rd 0) fun x => some (PV.int 3)) (rdT (0 + 1 + 1 + 1)) Γ)) (rdT (0 + 1 + 1))) (rd (0 + 1)) [.val S, .val I, .val (.int turn), .val B, .odict (tabE L 0 C1), .val (.str c), .val (.bool ba), .val (.str ss)] = some (LV (L C1.length)) := by
          rintro caps rfl
          refine compF_eq (xs := (l.map fun s => (PV.str (pS s), PV.str (fS (s / 3)))).map fun x => .tuple [x.1, x.2]) (Γ' := [.un, .un, .val (.bool ba), .val (.str ss)]) ?_ (by simp [sizeLine]; omega) rfl ?_
          · show some (zipL ((l.map pS).map PV.str) ((l.map fun s => fS (s / 3)).map PV.str)) = _
            rw [List.map_map, List.map_map, List.map_map, zipL_map]; rfl
          have := compP_pair (j := 0) (l := 1) (base := [.un, .un, .val (.bool ba), .val (.str ss)]) (T := app2b neP (fun Γ => Option.map PV.bool (app2b inP (app2 item2 (rd 0) fun x => some (PV.int 3)) (rdT (0 + 1 + 1 + 1)) Γ)) (rdT (0 + 1 + 1))) (F := rd (0 + 1)) rfl (by decide)
            (fun x => match item2 x.1 (.int 3) with | some (.str y) => Txt.contains ss y != ba | _ => false) (fun x => x.2) (l.map fun s => (PV.str (pS s), PV.str (fS (s / 3)))) (fun x hx => by
              obtain ⟨s, hs, rfl⟩ := List.mem_map.mp hx
              refine ⟨?_, fun _ => rfl⟩
              have e1 := P.three s (hl s hs)
              dsimp only
              rw [e1]
              refine app2b_eq (a := .bool (Txt.contains ss (nS (s % 3)))) (b := .bool ba) ?_ rfl
              show Option.map PV.bool (app2b inP _ _ _) = _
              rw [app2b_eq (a := .str (nS (s % 3))) (b := .str ss) ?_ rfl]
              · rfl
              · exact e1) .un .un notM_un notM_un
          refine Eq.trans this ?_
          congr 1
          rw [← hL]
          dsimp only
          rw [List.filter_map, List.map_map, List.map_map]
          have hfe : (l.filter ((fun x : PV × PV => match item2 x.1 (.int 3) with | some (.str y) => Txt.contains ss y != ba | _ => false) ∘ fun s => (PV.str (pS s), PV.str (fS (s / 3))))) = l.filter fun s => C1.length.testBit (s % 3) := by
            refine List.filter_congr fun s hs => ?_
            have h9 := hl s hs
            show (match item2 (PV.str (pS s)) (.int 3) with | some (.str y) => Txt.contains ss y != ba | _ => false) = _
            rw [P.three s h9]
            exact j3 _ (by omega)
          rw [hfe]; rfl
        show Option.bind (compF _ _ _ _ _ _) _ = _
        rw [comp2 _ (by decide +kernel)]
        show (if (tabE L 0 C1).length ≤ sizeLine then _ else none) = _
        have hnew : c ∉ (tabE L 0 C1).map (·.1) := by
          rw [tabE_fst]
          rw [hC'] at ndC
          intro q
          exact (List.nodup_append.mp ndC).2.2 c q c List.mem_cons_self rfl
        rw [if_pos (by rw [tabE_len]; have := congrArg List.length hC'; simp at this; unfold sizeLine; omega), putD_new _ _ _ hnew, tabE_snoc0]; rfl
  obtain ⟨u', v', w', e⟩ := loop C [] .un .un .un rfl notM_un notM_un notM_un
  refine seqF_next (Γ' := [.val S, .val I, .val (.int turn), .val B, .odict (tabE L 0 C), u', v', w']) ?_ (seqF_ret rfl)
  show Option.bind (Option.bind (tr_law_choices.1 [S]) itemsP) _ = _
  have jc : tr_law_choices.1 [S] = some (LV C) := J.choices
  rw [jc]
  exact e
end

section
theorem fdiv_nat (a b : Nat) : Int.fdiv (a : Int) (b : Int) = ((a / b : Nat) : Int) := by
  rw [Int.fdiv_eq_ediv_of_nonneg _ (Int.natCast_nonneg b)]; rfl
theorem fmod_nat (a b : Nat) : Int.fmod (a : Int) (b : Int) = ((a % b : Nat) : Int) := by
  rw [Int.fmod_eq_emod_of_nonneg _ (Int.natCast_nonneg b)]; rfl
theorem pylong_small (x : Int) {y : Int} (h : y.natAbs < 2 ^ 30) : Builtin.divisionGoesByPylong x y = false := by
  unfold Builtin.divisionGoesByPylong
  have : ¬ ((if y == 0 then 0 else y.natAbs.log2 / 30 + 1) > 300) := by
    split
    · omega
    · have : y.natAbs.log2 ≤ 30 := by
        by_cases h0 : y.natAbs = 0
        · rw [h0]; decide
        · have := (Nat.log2_lt h0).mpr h
          omega
      omega
  simp only [this, decide_false, Bool.false_and]
theorem divP_nat {a b : Nat} (h0 : b ≠ 0) (h : b < 2 ^ 30) : divP (.int a) (.int b) = some (.int ((a / b : Nat) : Int)) := by
  show (if (b : Int) ≠ 0 ∧ Builtin.divisionGoesByPylong a b = false then _ else none) = _
  rw [if_pos ⟨by omega, pylong_small _ (by simpa using h)⟩, fdiv_nat]
theorem modP_nat {a b : Nat} (h0 : b ≠ 0) : modP (.int a) (.int b) = some (.int ((a % b : Nat) : Int)) := by
  show (if (b : Int) ≠ 0 then _ else none) = _
  rw [if_pos (by omega), fmod_nat]
theorem pow_nat : ∀ i, i < 10 → (powP (.int 2) (.int (i : Nat)) = some (.int ((2 ^ i : Nat) : Int))) := by
  intro i hi
  have : ∀ i, i < 10 → (0 ≤ ((i : Nat) : Int) ∧ (Builtin.Int.intBits 2 : Int) * ((i : Nat) : Int) ≤ 2 ^ 27) := by decide +kernel
  show (if _ then _ else none) = _
  rw [if_pos (this i hi)]
  simp
theorem pow8_nat : ∀ i, i < 3 → (powP (.int 8) (.int (i : Nat)) = some (.int ((8 ^ i : Nat) : Int))) := by
  intro i hi
  have : ∀ i, i < 3 → (0 ≤ ((i : Nat) : Int) ∧ (Builtin.Int.intBits 8 : Int) * ((i : Nat) : Int) ≤ 2 ^ 27) := by decide +kernel
  show (if _ then _ else none) = _
  rw [if_pos (this i hi)]
  simp
theorem mul_small {a b : Nat} (h : b < 10) : mulP (.int a) (.int b) = some (.int ((a * b : Nat) : Int)) := by
  have key : ∀ b, b < 10 → decide (Builtin.Int.intBits ((b : Nat) : Int) > shortFactorBits) = false := by decide +kernel
  show (if intMulOkB a b = true then _ else none) = _
  rw [if_pos (by unfold intMulOkB; rw [key b h]; simp)]
  simp
theorem slice3 {a b e : PV} (r : List PV) : slicePV (a :: b :: e :: r) none (some 3) = [a, b, e] := by
  unfold slicePV
  have h : (sliceBounds none (some 3) none (a :: b :: e :: r).length) = (0, 3, 1) := by
    unfold sliceBounds
    simp
    first | done | omega
  rw [h]
  rfl
end

section
noncomputable def codesW : List Nat := [94, 45, 97, 93, 126, 91, 92, 98]
noncomputable def strideN (p : Nat) : Nat := [1, 3, 5, 7].getD (p / 8 % 4) 1
noncomputable def cd (p i : Nat) : Nat := codesW.getD ((p + strideN p * i) % 8) 0
noncomputable def fS (p j : Nat) : Str := ⟨#[cd p j]⟩
noncomputable def nS (p j : Nat) : Str := ⟨#[cd p (j + 3)]⟩
noncomputable def pS (p s : Nat) : Str := ⟨#[47, cd p (s / 3), 47, cd p (s % 3 + 3)]⟩
noncomputable def twin (p : Nat) : Nat := (p % 8 + 3 * strideN p) % 8 + 8 * (p / 8 % 4) + 32 * (p / 32 % 2)
noncomputable def chs (g : Nat → Nat) : List Str := [⟨#[]⟩, ⟨#[g 0]⟩, ⟨#[g 1]⟩, ⟨#[g 0, g 1]⟩, ⟨#[g 2]⟩, ⟨#[g 0, g 2]⟩, ⟨#[g 1, g 2]⟩, ⟨#[g 0, g 1, g 2]⟩]
noncomputable def isStrB (x : Option PV) (s : Str) : Bool := x.any fun v => (aStr v).any fun y => y == s
theorem isStrB_eq {x s} (h : isStrB x s = true) : x = some (.str s) := by
  obtain ⟨v, e0, h⟩ := (Option.any_eq_true _ _).mp h
  obtain ⟨y, e, h⟩ := (Option.any_eq_true _ _).mp h
  rw [e0, aStr_eq e, eq_of_beq h]
noncomputable def isPairB (x : Option PV) (b : Bool) (s : Str) : Bool := x.any fun v => (aTup v).any fun l => (args2 l).any fun p => (aBool p.1).any fun a => a == b && (aStr p.2).any fun y => y == s
theorem isPairB_eq {x b s} (h : isPairB x b s = true) : x = some (.tuple [.bool b, .str s]) := by
  obtain ⟨v, e0, h⟩ := (Option.any_eq_true _ _).mp h
  obtain ⟨l, e1, h⟩ := (Option.any_eq_true _ _).mp h
  obtain ⟨p, e2, h⟩ := (Option.any_eq_true _ _).mp h
  obtain ⟨a, e3, h⟩ := (Option.any_eq_true _ _).mp h
  rw [Bool.and_eq_true] at h
  obtain ⟨y, e4, h5⟩ := (Option.any_eq_true _ _).mp h.2
  rw [e0, aTup_eq e1, args2_eq e2, aBool_eq e3, aStr_eq e4, eq_of_beq h.1, eq_of_beq h5]
noncomputable def isStrsB (x : Option PV) (l : List Str) : Bool := x.any fun v => (aList v).any fun xs => (strsP xs).any fun ys => ys == l
theorem isStrsB_eq {x l} (h : isStrsB x l = true) : x = some (LV l) := by
  obtain ⟨v, e0, h⟩ := (Option.any_eq_true _ _).mp h
  obtain ⟨xs, e1, h⟩ := (Option.any_eq_true _ _).mp h
  obtain ⟨ys, e2, h⟩ := (Option.any_eq_true _ _).mp h
  rw [e0, aList_eq e1, strsP_eq e2, eq_of_beq h]
noncomputable def bJ (b : Bool) (l : List Nat) : Str × Bool × Str := (⟨(91 :: (if b then 33 :: l else l) ++ [93]).toArray⟩, b, ⟨l.toArray⟩)
noncomputable def brT0 := [[45], [91,92], [91,92,98], [91], [91,94], [91,97], [91,97,98], [91,98], [91,126], [92,45]].map (bJ true)
noncomputable def brT1 := [[92,91], [92,91,126], [92], [92,94], [92,98], [92,98,94], [92,126,45], [92,126], [93,45], [93,91]].map (bJ true)
noncomputable def brT2 := [[93,91,94], [93,91,126], [93,92,45], [93,92], [93,92,94], [93], [93,94,91], [93,94,92], [93,94], [93,97,45]].map (bJ true)
noncomputable def brT3 := [[93,97], [93,97,126], [93,126,91], [93,126], [93,126,97], [94,45], [94,91], [94,91,97], [94,92], [94]].map (bJ true)
noncomputable def brT4 := [[94,97,45], [94,97], [94,98,45], [94,98,92], [94,98], [97,45], [97,91], [97,91,94], [97], [97,94,45]].map (bJ true)
noncomputable def brT5 := [[97,94], [97,98], [97,98,126], [97,126], [98,45], [98,91], [98,92,91], [98,92], [98], [98,94,45]].map (bJ true)
noncomputable def brT6 := [[98,94], [98,97,91], [98,97], [98,126,45], [98,126], [126,45], [126,91,92], [126,91], [126,92,45], [126,92]].map (bJ true)
noncomputable def brT7 := [[126], [126,97], [126,98,45], [126,98], [126,98,97]].map (bJ true) ++ [[45], [91,92], [91,92,98], [91], [91,94]].map (bJ false)
noncomputable def brT8 := [[91,97], [91,97,98], [91,98], [91,126], [92,45], [92,91], [92,91,126], [92], [92,94], [92,98]].map (bJ false)
noncomputable def brT9 := [[92,98,94], [92,126,45], [92,126], [93,45], [93,91], [93,91,94], [93,91,126], [93,92,45], [93,92], [93,92,94]].map (bJ false)
noncomputable def brT10 := [[93], [93,94,91], [93,94,92], [93,94], [93,97,45], [93,97], [93,97,126], [93,126,91], [93,126], [93,126,97]].map (bJ false)
noncomputable def brT11 := [[94,45], [94,91], [94,91,97], [94,92], [94], [94,97,45], [94,97], [94,98,45], [94,98,92], [94,98]].map (bJ false)
noncomputable def brT12 := [[97,45], [97,91], [97,91,94], [97], [97,94,45], [97,94], [97,98], [97,98,126], [97,126], [98,45]].map (bJ false)
noncomputable def brT13 := [[98,91], [98,92,91], [98,92], [98], [98,94,45], [98,94], [98,97,91], [98,97], [98,126,45], [98,126]].map (bJ false)
noncomputable def brT14 := [[126,45], [126,91,92], [126,91], [126,92,45], [126,92], [126], [126,97], [126,98,45], [126,98], [126,98,97]].map (bJ false)
noncomputable def brT : List (Str × Bool × Str) := brT0 ++ brT1 ++ brT2 ++ brT3 ++ brT4 ++ brT5 ++ brT6 ++ brT7 ++ brT8 ++ brT9 ++ brT10 ++ brT11 ++ brT12 ++ brT13 ++ brT14
noncomputable def chkJ (e : Str × Bool × Str) : Bool := isPairB (tr_law_judge.1 [.str "/", .str e.1, .str "/?"]) e.2.1 e.2.2 && isPairB (tr_law_judge.1 [.str "/?/", .str e.1, .str ""]) e.2.1 e.2.2
theorem brT0_ok : brT0.all chkJ = true := by decide +kernel
theorem brT1_ok : brT1.all chkJ = true := by decide +kernel
theorem brT2_ok : brT2.all chkJ = true := by decide +kernel
theorem brT3_ok : brT3.all chkJ = true := by decide +kernel
theorem brT4_ok : brT4.all chkJ = true := by decide +kernel
theorem brT5_ok : brT5.all chkJ = true := by decide +kernel
theorem brT6_ok : brT6.all chkJ = true := by decide +kernel
theorem brT7_ok : brT7.all chkJ = true := by decide +kernel
theorem brT8_ok : brT8.all chkJ = true := by decide +kernel
theorem brT9_ok : brT9.all chkJ = true := by decide +kernel
theorem brT10_ok : brT10.all chkJ = true := by decide +kernel
theorem brT11_ok : brT11.all chkJ = true := by decide +kernel
theorem brT12_ok : brT12.all chkJ = true := by decide +kernel
theorem brT13_ok : brT13.all chkJ = true := by decide +kernel
theorem brT14_ok : brT14.all chkJ = true := by decide +kernel
theorem brT_ok : ∀ e ∈ brT, chkJ e = true := by
  have h : brT.all chkJ = true := by
    unfold brT
    simp only [List.all_append, brT0_ok, brT1_ok, brT2_ok, brT3_ok, brT4_ok, brT5_ok, brT6_ok, brT7_ok, brT8_ok, brT9_ok, brT10_ok, brT11_ok, brT12_ok, brT13_ok, brT14_ok]
    rfl
  exact List.all_eq_true.mp h
end

section
theorem cd_mem (p i : Nat) : cd p i ∈ codesW := by
  unfold cd
  have h : (p + strideN p * i) % 8 < codesW.length := Nat.mod_lt _ (by decide)
  rw [List.getD_eq_getElem?_getD, List.getElem?_eq_getElem h]
  exact List.getElem_mem h
noncomputable def pathS (a b : Nat) : Str := ⟨#[47, a, 47, b]⟩
noncomputable def chkP (a b : Nat) : Bool := isStrB (tr_basename.1 [.str (pathS a b)]) ⟨#[b]⟩ && (match tr_dirname.1 [.str (pathS a b)] with | some (.str x) => isStrB (tr_basename.1 [.str x]) ⟨#[a]⟩ | _ => false) && isStrB (item2 (.str (pathS a b)) (.int 1)) ⟨#[a]⟩ && isStrB (item2 (.str (pathS a b)) (.int 3)) ⟨#[b]⟩ && isStrB (tr_join.1 [.str "/", .str ⟨#[a]⟩, .str ⟨#[b]⟩]) (pathS a b)
theorem chkP_ok : ∀ a ∈ codesW, ∀ b ∈ codesW, chkP a b = true := by decide +kernel
set_option tactic.hygienic true in
theorem places (p : Nat) : Places (fS p) (nS p) (pS p) := by
  have h : ∀ s, chkP (cd p (s / 3)) (cd p (s % 3 + 3)) = true := fun s => chkP_ok _ (cd_mem _ _) _ (cd_mem _ _)
  refine ⟨fun s _ => ?_, fun s _ => ?_, fun s _ => ?_, fun s _ => ?_⟩ <;> (have := h s; unfold chkP at this; simp only [Bool.and_eq_true] at this; obtain ⟨⟨⟨⟨h1, h2⟩, h3⟩, h4⟩, h5⟩ := this)
  · exact isStrB_eq h1
  · split at h2
    · rename_i x e
      exact ⟨x, e, isStrB_eq h2⟩
    · cases h2
  · exact isStrB_eq h3
  · exact isStrB_eq h4
theorem F_join (p s : Nat) : tr_join.1 [.str "/", .str (fS p (s / 3)), .str (nS p (s % 3))] = some (.str (pS p s)) := by
  have := chkP_ok _ (cd_mem p (s / 3)) _ (cd_mem p (s % 3 + 3))
  unfold chkP at this
  simp only [Bool.and_eq_true] at this
  exact isStrB_eq this.2
theorem twin_ok : ∀ p, p < 64 → twin p < 64 ∧ twin p / 32 = p / 32 ∧ ∀ j, j < 3 → cd p (j + 3) = cd (twin p) j := by decide +kernel
theorem nS_twin {p : Nat} (hp : p < 64) {j : Nat} (hj : j < 3) : nS p j = fS (twin p) j := by
  unfold nS fS; rw [(twin_ok p hp).2.2 j hj]
noncomputable def chkC (q : Nat) : Bool := isStrsB (tr_law_choices.1 [LV [fS q 0, fS q 1, fS q 2]]) (chs (cd q)) && decide ((chs (cd q)).Nodup) && decide ([fS q 0, fS q 1, fS q 2].Nodup) &&
  ([true, false].all fun a => [true, false].all fun b => [true, false].all fun e => match (chs (cd q))[mix a b e]? with | some c => isStrB (joinP [.str "", .list ((sel (fS q 0) (fS q 1) (fS q 2) a b e).map .str)]) c | none => false)
theorem chkC_ok : ∀ q, q < 64 → chkC q = true := by decide +kernel
noncomputable def brkParts : Σ' (F1 R : SF Out), tr_law_bracket.1 = fnF 3 3 (seqF F1 R) := by
  refine' ⟨_, _, _⟩
  rotate_left 2
  unfold tr_law_bracket
  dsimp only
  rfl
noncomputable def cntN (k : Nat) : Nat := [0, 1, 1, 2, 1, 2, 2, 3].getD k 0
noncomputable def barN (k : Nat) (t : Nat) : Bool := decide (cntN k < 3) && (cntN k == 0 || (cntN k + t) % 2 == 1)
theorem barN_par {k t q : Nat} (h : t % 2 = q) : barN k t = barN k q := by
  subst h
  unfold barN
  rw [Nat.add_mod_mod]
theorem chs_len {g : Nat → Nat} {k : Nat} {c : Str} (hk : k < 8) (hc : (chs g)[k]? = some c) : c.length = cntN k ∧ cntN k ≤ 3 ∧ (c == ("" : Str)) = (cntN k == 0) := by
  rcases cases8 hk with rfl | rfl | rfl | rfl | rfl | rfl | rfl | rfl <;> cases hc <;> exact ⟨rfl, by decide, rfl⟩
theorem brk_bar (a b d c : Str) (t : Nat) (n : Nat) (hn : c.length = n) (h3 : n ≤ 3) (he : (c == ("" : Str)) = (n == 0)) :
    brkParts.1 [.val (LV [a, b, d]), .val (.str c), .val (.int t), .un, .un, .un] = some (.next [.val (LV [a, b, d]), .val (.str c), .val (.int t), .val (.bool (decide (n < 3) && (n == 0 || (n + t) % 2 == 1))), .un, .un]) := by
  have l1 : lenP [.str c] = some (.int (n : Nat)) := by
    show (if c.length ≤ sizeLine then _ else none) = _
    rw [hn, if_pos (by unfold sizeLine; omega)]
  have e1 : ∀ Γ : List Slot, Γ = [.val (LV [a, b, d]), .val (.str c), .val (.int t), .un, .un, .un] → app2b ltP (fun Γ => (rdT 1 Γ).bind fun v => lenP [v]) (fun Γ => (rdT 0 Γ).bind fun v => lenP [v]) Γ = some (decide (n < 3)) := by
    rintro Γ rfl
    refine (app2b_eq (a := .int (n : Nat)) (b := .int 3) l1 rfl).trans ?_
    show some (decide ((n : Int) < 3)) = _
    congr 1
    rw [decide_eq_decide]; omega
  have e2 : ∀ Γ : List Slot, Γ = [.val (LV [a, b, d]), .val (.str c), .val (.int t), .un, .un, .un] → app2b eqP (rdT 1) (fun x => some (PV.str "")) Γ = some (n == 0) := by
    rintro Γ rfl
    refine (app2b_eq (a := .str c) (b := .str "") rfl rfl).trans ?_
    show some (c == ("" : Str)) = _
    rw [he]
  have e3 : ∀ Γ : List Slot, Γ = [.val (LV [a, b, d]), .val (.str c), .val (.int t), .un, .un, .un] → app2b eqP (app2 modP (app2 addP (fun Γ => (rdT 1 Γ).bind fun v => lenP [v]) (rd 2)) fun x => some (PV.int 2)) (fun x => some (PV.int 1)) Γ = some ((n + t) % 2 == 1) := by
    rintro Γ rfl
    refine (app2b_eq (a := .int (((n + t) % 2 : Nat) : Int)) (b := .int 1) ?_ rfl).trans ?_
    · refine (app2_eq (a := .int ((n + t : Nat) : Int)) (b := .int (2 : Nat)) ?_ rfl).trans (modP_nat (by decide))
      refine (app2_eq (a := .int (n : Nat)) (b := .int t) l1 rfl).trans ?_
      show some (PV.int ((n : Int) + t)) = _
      rw [Int.natCast_add]
    · show some ((((n + t) % 2 : Nat) : Int) == 1) = _
      congr 1
      rw [Bool.eq_iff_iff, beq_iff_eq, beq_iff_eq]; omega
  have asb : ∀ {T : SF Bool} {Γ : List Slot} {v : Bool}, T Γ = some v → asB (fun Γ => Option.map PV.bool (T Γ)) Γ = some v := fun {T Γ v} h => by
    show Option.bind (Option.map PV.bool (T Γ)) _ = _
    rw [h]; rfl
  have andb : ∀ {T U : SF Bool} {Γ : List Slot} {v w : Bool}, T Γ = some v → U Γ = some w → andF T U Γ = some (v && w) := fun {T U Γ v w} h h2 => by
    unfold andF; rw [h]; show (if v then U Γ else some false) = _; rw [h2]; cases v <;> rfl
  have orb : ∀ {T U : SF Bool} {Γ : List Slot} {v w : Bool}, T Γ = some v → U Γ = some w → orF T U Γ = some (v || w) := fun {T U Γ v w} h h2 => by
    unfold orF; rw [h]; show (if v then some true else U Γ) = _; rw [h2]; cases v <;> rfl
  unfold brkParts
  dsimp only
  refine asg_noMeth (Γ := [.val (LV [a, b, d]), .val (.str c), .val (.int t), .un, .un, .un]) rfl ?_
  exact congrArg (Option.map PV.bool) (andb (asb (e1 _ rfl)) (asb (orb (asb (e2 _ rfl)) (asb (e3 _ rfl)))))
noncomputable def brOf (q k t : Nat) : Option Str := match (chs (cd q))[k]? with
  | some c => (match brkParts.2.1 [.val (LV [fS q 0, fS q 1, fS q 2]), .val (.str c), .val (.int t), .val (.bool (barN k (q / 32))), .un, .un] with
    | some (.ret (.str br)) => some br
    | _ => none)
  | none => none
noncomputable def brIx : List Nat := [8320528007087861032, 7523647102368488989, 7668645133607575839, 7750235506391335712, 10181671477401944386, 5573576179371675138, 6523279403916278799, 9686821945487008571, 7377583506389866267, 10634266738653808968, 8813400634342638639, 7013332874733685014, 10775304428178587210, 6874566728803884052, 6596748749325811984, 9834034466441866813, 8093096230217385253, 7017273464043214614, 9190580423228735540, 7309164196327007258, 10328038456667998532, 5872221146908668678, 7162790589808581656, 9983496588187025727, 8540075229192796459, 8464376013839019050, 8966241542384788273, 7527869162342984989, 7883993294936940066, 6948031714972344597, 6220416709775394827, 9463613375531911736, 8297601367544656424, 7494042986426878749, 7651643878644415263, 7717276737357308960, 10179827680121098562, 5549292932199566850, 6488625425097774863, 9672086352815097147, 7360879977621123611, 10592543861602601800, 8804541060329929519, 6996637012364583958, 10756349060790456650, 6846359169410420244, 6560619381121570576, 9816211449431426365, 8081431883965952549, 6989600245740423958, 9164889637326781236, 7284897088267248666, 10323939569661874500, 5837562890772237830, 7137107487553247000, 9960350813829301567, 8513837766113849899, 8430781955602271018, 8948652949870705457, 7501079753051038749, 7874009015387459874, 6918450848310840853, 6200334709467010827, 9455883896820827448]
noncomputable def chkB (q k t : Nat) : Bool := match brOf q k t with
  | some br => (match brT[Nat.mod (Nat.div (brIx.getD q 0) (Nat.pow 256 k)) 256]? with
      | some e => e.1 == br && (List.range 3).all fun j => (Txt.contains e.2.2 (fS q j) != e.2.1) == k.testBit j
      | none => false)
  | none => false
theorem chkB_ok0 (t : Nat) : ((List.range 16).all fun q => (List.range 8).all fun k => chkB q k t) = true := by kernel_rfl
theorem chkB_ok1 (t : Nat) : ((List.range 16).all fun q => (List.range 8).all fun k => chkB (q + 16) k t) = true := by kernel_rfl
theorem chkB_ok2 (t : Nat) : ((List.range 16).all fun q => (List.range 8).all fun k => chkB (q + 32) k t) = true := by kernel_rfl
theorem chkB_ok3 (t : Nat) : ((List.range 16).all fun q => (List.range 8).all fun k => chkB (q + 48) k t) = true := by kernel_rfl
theorem chkB_ok {q k : Nat} (t : Nat) (hq : q < 64) (hk : k < 8) : chkB q k t = true := by
  have go : ∀ (f : Nat → Nat), ((List.range 16).all fun q => (List.range 8).all fun k => chkB (f q) k t) = true → ∀ q', q' < 16 → chkB (f q') k t = true := fun f h q' hq' =>
    List.all_eq_true.mp (List.all_eq_true.mp h q' (List.mem_range.mpr hq')) k (List.mem_range.mpr hk)
  rcases Nat.lt_or_ge q 16 with h | h
  · exact go id (chkB_ok0 t) q h
  · rcases Nat.lt_or_ge q 32 with h2 | h2
    · have := go (· + 16) (chkB_ok1 t) (q - 16) (by omega)
      simpa [show q - 16 + 16 = q by omega] using this
    · rcases Nat.lt_or_ge q 48 with h3 | h3
      · have := go (· + 32) (chkB_ok2 t) (q - 32) (by omega)
        simpa [show q - 32 + 32 = q by omega] using this
      · have := go (· + 48) (chkB_ok3 t) (q - 48) (by omega)
        simpa [show q - 48 + 48 = q by omega] using this
set_option tactic.hygienic true in
theorem bracket_eq {q k t : Nat} {br : Str} {c : Str} (hq : q < 64) (ht : t % 2 = q / 32) (hc : (chs (cd q))[k]? = some c) (hb : brOf q k t = some br) : tr_law_bracket.1 [LV [fS q 0, fS q 1, fS q 2], .str c, .int t] = some (.str br) := by
  rw [brkParts.2.2]
  have hk : k < 8 := (List.getElem?_eq_some_iff.mp hc).1
  unfold brOf at hb
  rw [hc] at hb
  dsimp only at hb
  have hbar : brkParts.1 [.val (LV [fS q 0, fS q 1, fS q 2]), .val (.str c), .val (.int t), .un, .un, .un] = some (.next [.val (LV [fS q 0, fS q 1, fS q 2]), .val (.str c), .val (.int t), .val (.bool (barN k (q / 32))), .un, .un]) := by
    rw [← barN_par (k := k) ht]
    obtain ⟨h1, h2, h3⟩ := chs_len hk hc
    exact brk_bar _ _ _ _ t _ h1 h2 h3
  refine fnF_eq rfl (seqF_next hbar ?_)
  split at hb
  · rename_i br' e
    cases hb
    exact e
  · cases hb
set_option tactic.hygienic true in
theorem sysF {q : Nat} (hq : q < 64) : Sys (fS q 0) (fS q 1) (fS q 2) (chs (cd q)) ∧ tr_law_choices.1 [LV [fS q 0, fS q 1, fS q 2]] = some (LV (chs (cd q))) := by
  have h := chkC_ok q hq
  unfold chkC at h
  simp only [Bool.and_eq_true, decide_eq_true_eq, List.all_cons, List.all_nil, Bool.and_true] at h
  obtain ⟨⟨⟨h1, h2⟩, h3⟩, h4⟩ := h
  refine ⟨⟨h3, rfl, h2, fun a b e => ?_⟩, isStrsB_eq h1⟩
  have key : (match (chs (cd q))[mix a b e]? with | some c => isStrB (joinP [.str "", .list ((sel (fS q 0) (fS q 1) (fS q 2) a b e).map .str)]) c | none => false) = true := by
    cases a <;> cases b <;> cases e <;> simp only [h4]
  split at key
  · rename_i c ec
    exact ⟨c, ec, isStrB_eq key⟩
  · cases key
set_option tactic.hygienic true in
theorem judged {q t : Nat} (hq : q < 64) (ht : t % 2 = q / 32) : Judged (fS q) (chs (cd q)) (t : Int) "/" "/?" ∧ Judged (fS q) (chs (cd q)) (t : Int) "/?/" "" := by
  have key : ∀ (k : Nat) (c : Str), (chs (cd q))[k]? = some c → ∃ br ba ss, tr_law_bracket.1 [LV [fS q 0, fS q 1, fS q 2], .str c, .int (t : Int)] = some (.str br) ∧ (tr_law_judge.1 [.str "/", .str br, .str "/?"] = some (.tuple [.bool ba, .str ss]) ∧ tr_law_judge.1 [.str "/?/", .str br, .str ""] = some (.tuple [.bool ba, .str ss])) ∧ ∀ j, j < 3 → (Txt.contains ss (fS q j) != ba) = k.testBit j := by
    intro k c hc
    have hk : k < 8 := (List.getElem?_eq_some_iff.mp hc).1
    have h := chkB_ok t hq hk
    unfold chkB at h
    split at h
    · rename_i br eb
      split at h
      · rename_i e ee
        have hm := List.mem_of_getElem? ee
        rw [Bool.and_eq_true] at h
        have h1' : e.1 = br := eq_of_beq h.1
        have hj := brT_ok e hm
        unfold chkJ at hj
        rw [Bool.and_eq_true] at hj
        refine ⟨br, e.2.1, e.2.2, bracket_eq hq ht hc eb, ⟨?_, ?_⟩, fun j hj3 => ?_⟩
        · rw [← h1']; exact isPairB_eq hj.1
        · rw [← h1']; exact isPairB_eq hj.2
        · have := List.all_eq_true.mp h.2 j (List.mem_range.mpr hj3)
          exact eq_of_beq this
      · cases h
    · cases h
  exact ⟨⟨(sysF hq).2, fun k c hc => let ⟨br, ba, ss, a, b, d⟩ := key k c hc; ⟨br, ba, ss, a, b.1, d⟩⟩, ⟨(sysF hq).2, fun k c hc => let ⟨br, ba, ss, a, b, d⟩ := key k c hc; ⟨br, ba, ss, a, b.2, d⟩⟩⟩
end

section
noncomputable def bitR (b k i : Nat) : Bool := (List.range 9).any fun s => b.testBit s && (k.testBit (s / 3) && s % 3 == i)
noncomputable def bitQ (b k i : Nat) : Bool := (List.range 9).any fun s => b.testBit s && (k.testBit (s % 3) && s / 3 == i)
noncomputable def mR (b k : Nat) : Nat := mix (bitR b k 0) (bitR b k 1) (bitR b k 2)
noncomputable def mQ (b k : Nat) : Nat := mix (bitQ b k 0) (bitQ b k 1) (bitQ b k 2)
noncomputable def acr (b j : Nat) : Nat := b / 8 ^ j % 8
noncomputable def dwn (b j : Nat) : Nat := acr b 0 / 2 ^ j % 2 * 2 ^ 0 + acr b 1 / 2 ^ j % 2 * 2 ^ 1 + acr b 2 / 2 ^ j % 2 * 2 ^ 2
noncomputable def kindsM (f : Nat → Nat) : Nat := ((List.range 8).foldl (fun ks i => if ks.contains (f i) then ks else f i :: ks) []).length
theorem mix_bits (a b e : Bool) : (mix a b e).testBit 0 = a ∧ (mix a b e).testBit 1 = b ∧ (mix a b e).testBit 2 = e ∧ mix a b e < 8 ∧ 7 - mix a b e = mix (!a) (!b) (!e) := by
  cases a <;> cases b <;> cases e <;> decide
theorem eq_mix {n : Nat} (h : n < 8) : n = mix (n.testBit 0) (n.testBit 1) (n.testBit 2) := by
  have : ∀ n, n < 8 → n = mix (n.testBit 0) (n.testBit 1) (n.testBit 2) := by decide
  exact this n h
theorem bitR_eq (b k : Nat) : bitR b k 0 = (b.testBit 0 && k.testBit 0 || (b.testBit 3 && k.testBit 1 || b.testBit 6 && k.testBit 2)) ∧ bitR b k 1 = (b.testBit 1 && k.testBit 0 || (b.testBit 4 && k.testBit 1 || b.testBit 7 && k.testBit 2)) ∧
    bitR b k 2 = (b.testBit 2 && k.testBit 0 || (b.testBit 5 && k.testBit 1 || b.testBit 8 && k.testBit 2)) := by
  unfold bitR
  rw [show List.range 9 = [0, 1, 2, 3, 4, 5, 6, 7, 8] from rfl]
  simp only [List.any_cons, List.any_nil]
  simp only [Nat.reduceDiv, Nat.reduceMod, Nat.reduceBEq, Bool.and_true, Bool.and_false, Bool.or_false, Bool.false_or, and_self]
theorem bitQ_eq (b k : Nat) : bitQ b k 0 = (b.testBit 0 && k.testBit 0 || (b.testBit 1 && k.testBit 1 || b.testBit 2 && k.testBit 2)) ∧ bitQ b k 1 = (b.testBit 3 && k.testBit 0 || (b.testBit 4 && k.testBit 1 || b.testBit 5 && k.testBit 2)) ∧
    bitQ b k 2 = (b.testBit 6 && k.testBit 0 || (b.testBit 7 && k.testBit 1 || b.testBit 8 && k.testBit 2)) := by
  unfold bitQ
  rw [show List.range 9 = [0, 1, 2, 3, 4, 5, 6, 7, 8] from rfl]
  simp only [List.any_cons, List.any_nil]
  simp only [Nat.reduceDiv, Nat.reduceMod, Nat.reduceBEq, Bool.and_true, Bool.and_false, Bool.or_false, Bool.false_or, and_self]
noncomputable def o3 (a b e x y z : Bool) : Bool := a && x || (b && y || e && z)
noncomputable def allB (f : Bool → Bool) : Bool := f true && f false
theorem allB_at {f : Bool → Bool} (h : allB f = true) (x : Bool) : f x = true := by
  unfold allB at h
  rw [Bool.and_eq_true] at h
  cases x
  · exact h.2
  · exact h.1
noncomputable def bk (a0 a1 a2 b0 b1 b2 c0 c1 c2 x y z : Bool) : Bool :=
  (fun r0 r1 r2 => (fun q0 q1 q2 => (o3 a0 b0 c0 (!q0) (!q1) (!q2) == r0) && ((o3 a1 b1 c1 (!q0) (!q1) (!q2) == r1) && (o3 a2 b2 c2 (!q0) (!q1) (!q2) == r2)))
    (o3 a0 a1 a2 (!r0) (!r1) (!r2)) (o3 b0 b1 b2 (!r0) (!r1) (!r2)) (o3 c0 c1 c2 (!r0) (!r1) (!r2))) (o3 a0 b0 c0 x y z) (o3 a1 b1 c1 x y z) (o3 a2 b2 c2 x y z)
theorem bk_ok : (allB fun a0 => allB fun a1 => allB fun a2 => allB fun b0 => allB fun b1 => allB fun b2 => allB fun c0 => allB fun c1 => allB fun c2 => allB fun x => allB fun y => allB fun z => bk a0 a1 a2 b0 b1 b2 c0 c1 c2 x y z) = true := by decide +kernel
theorem bk_at (a0 a1 a2 b0 b1 b2 c0 c1 c2 x y z : Bool) : bk a0 a1 a2 b0 b1 b2 c0 c1 c2 x y z = true :=
  allB_at (allB_at (allB_at (allB_at (allB_at (allB_at (allB_at (allB_at (allB_at (allB_at (allB_at (allB_at bk_ok a0) a1) a2) b0) b1) b2) c0) c1) c2) x) y) z
theorem mR_o3 (b : Nat) (x y z : Bool) : mR b (mix x y z) = mix (o3 (b.testBit 0) (b.testBit 3) (b.testBit 6) x y z) (o3 (b.testBit 1) (b.testBit 4) (b.testBit 7) x y z) (o3 (b.testBit 2) (b.testBit 5) (b.testBit 8) x y z) := by
  obtain ⟨h1, h2, h3⟩ := bitR_eq b (mix x y z)
  obtain ⟨m1, m2, m3, _⟩ := mix_bits x y z
  unfold mR
  rw [h1, h2, h3, m1, m2, m3]; rfl
theorem mQ_o3 (b : Nat) (x y z : Bool) : mQ b (mix x y z) = mix (o3 (b.testBit 0) (b.testBit 1) (b.testBit 2) x y z) (o3 (b.testBit 3) (b.testBit 4) (b.testBit 5) x y z) (o3 (b.testBit 6) (b.testBit 7) (b.testBit 8) x y z) := by
  obtain ⟨h1, h2, h3⟩ := bitQ_eq b (mix x y z)
  obtain ⟨m1, m2, m3, _⟩ := mix_bits x y z
  unfold mQ
  rw [h1, h2, h3, m1, m2, m3]; rfl
theorem fact_back (b : Nat) (_ : b < 512) (k : Nat) (hk : k < 8) : mR b (7 - mQ b (7 - mR b k)) = mR b k ∧ mQ b (7 - mR b (7 - mQ b k)) = mQ b k := by
  rw [eq_mix hk]
  generalize k.testBit 0 = x
  generalize k.testBit 1 = y
  generalize k.testBit 2 = z
  have key := bk_at (b.testBit 0) (b.testBit 1) (b.testBit 2) (b.testBit 3) (b.testBit 4) (b.testBit 5) (b.testBit 6) (b.testBit 7) (b.testBit 8) x y z
  have key2 := bk_at (b.testBit 0) (b.testBit 3) (b.testBit 6) (b.testBit 1) (b.testBit 4) (b.testBit 7) (b.testBit 2) (b.testBit 5) (b.testBit 8) x y z
  unfold bk at key key2
  simp only [Bool.and_eq_true, beq_iff_eq] at key key2
  obtain ⟨p1, p2, p3⟩ := key
  obtain ⟨q1, q2, q3⟩ := key2
  constructor
  · rw [mR_o3, (mix_bits _ _ _).2.2.2.2, mQ_o3, (mix_bits _ _ _).2.2.2.2, mR_o3, p1, p2, p3]
  · rw [mQ_o3, (mix_bits _ _ _).2.2.2.2, mR_o3, (mix_bits _ _ _).2.2.2.2, mQ_o3, q1, q2, q3]
theorem tb_mul (a k i : Nat) : (a * (k % 2)).testBit i = (a.testBit i && k.testBit 0) := by
  rw [Nat.testBit_zero]
  rcases Nat.mod_two_eq_zero_or_one k with h | h <;> simp [h]
theorem told_bit (a0 a1 a2 k i : Nat) : (toldN a0 a1 a2 k).testBit i = (a0.testBit i && k.testBit 0 || (a1.testBit i && k.testBit 1 || a2.testBit i && k.testBit 2)) := by
  unfold toldN
  rw [Nat.testBit_or, Nat.testBit_or, Nat.testBit_or, tb_mul, tb_mul, tb_mul, Nat.zero_testBit, Nat.testBit_div_two_pow, Nat.testBit_div_two_pow, Nat.testBit_div_two_pow]
  simp [Bool.or_assoc]
theorem acr_bit (b j i : Nat) (hi : i < 3) : (acr b j).testBit i = b.testBit (i + 3 * j) := by
  unfold acr
  rw [show (8 : Nat) = 2 ^ 3 from rfl, Nat.testBit_mod_two_pow, ← Nat.pow_mul, Nat.testBit_div_two_pow]
  simp [hi]
theorem acr_lt (b j : Nat) : acr b j < 8 := Nat.mod_lt _ (by decide)
theorem bit_mod (a j : Nat) : a / 2 ^ j % 2 = (a.testBit j).toNat := by
  rw [Nat.testBit_eq_decide_div_mod_eq]
  rcases Nat.mod_two_eq_zero_or_one (a / 2 ^ j) with h | h <;> simp [h]
theorem dwn_mix (b j : Nat) (hj : j < 3) : dwn b j = mix (b.testBit j) (b.testBit (j + 3)) (b.testBit (j + 6)) := by
  unfold dwn
  rw [bit_mod, bit_mod, bit_mod, acr_bit _ _ _ hj, acr_bit _ _ _ hj, acr_bit _ _ _ hj]
  unfold mix
  simp only [Nat.reduceMul, Nat.reducePow, Nat.add_zero, Nat.mul_zero]
  omega
theorem fact_told (b : Nat) (_ : b < 512) (k : Nat) (_ : k < 8) (i : Nat) (hi : i < 3) : (toldN (acr b 0) (acr b 1) (acr b 2) k).testBit i = bitR b k i ∧ (toldN (dwn b 0) (dwn b 1) (dwn b 2) k).testBit i = bitQ b k i := by
  obtain ⟨h1, h2, h3⟩ := bitR_eq b k
  obtain ⟨q1, q2, q3⟩ := bitQ_eq b k
  rw [told_bit, told_bit, acr_bit _ _ _ hi, acr_bit _ _ _ hi, acr_bit _ _ _ hi, dwn_mix b 0 (by decide), dwn_mix b 1 (by decide), dwn_mix b 2 (by decide)]
  have : i = 0 ∨ i = 1 ∨ i = 2 := cases3 (by first | assumption | omega)
  rcases this with rfl | rfl | rfl
  · rw [h1, q1, (mix_bits _ _ _).1, (mix_bits _ _ _).1, (mix_bits _ _ _).1]; exact ⟨rfl, rfl⟩
  · rw [h2, q2, (mix_bits _ _ _).2.1, (mix_bits _ _ _).2.1, (mix_bits _ _ _).2.1]; exact ⟨rfl, rfl⟩
  · rw [h3, q3, (mix_bits _ _ _).2.2.1, (mix_bits _ _ _).2.2.1, (mix_bits _ _ _).2.2.1]; exact ⟨rfl, rfl⟩
theorem fact_dwn (b : Nat) (_ : b < 512) (j : Nat) (hj : j < 3) : dwn b j < 8 ∧ acr b j < 8 := ⟨by rw [dwn_mix b j hj]; exact (mix_bits _ _ _).2.2.2.1, acr_lt b j⟩
theorem mR_told (b : Nat) (hb : b < 512) (k : Nat) (hk : k < 8) : mR b k = toldN (acr b 0) (acr b 1) (acr b 2) k := by
  have h := fact_told b hb k hk
  rw [eq_mix (told_lt (acr_lt b 0) (acr_lt b 1) (acr_lt b 2)).2.2, (h 0 (by decide)).1, (h 1 (by decide)).1, (h 2 (by decide)).1]; rfl
theorem mQ_told (b : Nat) (hb : b < 512) (k : Nat) (hk : k < 8) : mQ b k = toldN (dwn b 0) (dwn b 1) (dwn b 2) k := by
  have h := fact_told b hb k hk
  rw [eq_mix (told_lt (fact_dwn b hb 0 (by decide)).1 (fact_dwn b hb 1 (by decide)).1 (fact_dwn b hb 2 (by decide)).1).2.2, (h 0 (by decide)).2, (h 1 (by decide)).2, (h 2 (by decide)).2]; rfl
theorem kindsM_congr {f g : Nat → Nat} (h : ∀ k, k < 8 → f k = g k) : kindsM f = kindsM g := by
  unfold kindsM
  rw [show List.range 8 = [0, 1, 2, 3, 4, 5, 6, 7] from rfl]
  simp only [List.foldl_cons, List.foldl_nil, h 0 (by decide), h 1 (by decide), h 2 (by decide), h 3 (by decide), h 4 (by decide), h 5 (by decide), h 6 (by decide), h 7 (by decide)]
noncomputable def tN (a0 a1 a2 k : Nat) : Nat := Nat.lor (Nat.mul a0 (Nat.mod k 2)) (Nat.lor (Nat.mul a1 (Nat.mod (Nat.div k 2) 2)) (Nat.mul a2 (Nat.mod (Nat.div k 4) 2)))
theorem told_tN (a0 a1 a2 k : Nat) : toldN a0 a1 a2 k = tN a0 a1 a2 k := by
  show ((0 ||| a0 * (k / 2 ^ 0 % 2)) ||| a1 * (k / 2 ^ 1 % 2)) ||| a2 * (k / 2 ^ 2 % 2) = a0 * (k % 2) ||| (a1 * (k / 2 % 2) ||| a2 * (k / 4 % 2))
  rw [Nat.zero_or, Nat.pow_zero, Nat.div_one, Nat.pow_one, Nat.or_assoc]
noncomputable def dN (a0 a1 a2 j : Nat) : Nat := Nat.add (Nat.mod (Nat.div a0 j) 2) (Nat.add (Nat.mul 2 (Nat.mod (Nat.div a1 j) 2)) (Nat.mul 4 (Nat.mod (Nat.div a2 j) 2)))
theorem dwn_dN (b j : Nat) : dwn b j = dN (acr b 0) (acr b 1) (acr b 2) (2 ^ j) := by
  show acr b 0 / 2 ^ j % 2 * 2 ^ 0 + acr b 1 / 2 ^ j % 2 * 2 ^ 1 + acr b 2 / 2 ^ j % 2 * 2 ^ 2 = acr b 0 / 2 ^ j % 2 + (2 * (acr b 1 / 2 ^ j % 2) + 4 * (acr b 2 / 2 ^ j % 2))
  omega
noncomputable def chkK (a0 a1 a2 : Nat) : Bool := (fun n => Nat.beq (kindsM (tN a0 a1 a2)) n && Nat.beq (kindsM (tN (dN a0 a1 a2 1) (dN a0 a1 a2 2) (dN a0 a1 a2 4))) n) (spansN [a0, a1, a2])
theorem chkK_ok : ∀ a0, a0 < 8 → ∀ a1, a1 < 8 → ∀ a2, a2 < 8 → chkK a0 a1 a2 = true := by decide +kernel
theorem fact_kinds (b : Nat) (hb : b < 512) : kindsM (mR b) = kindsM (mQ b) ∧ kindsM (mQ b) = spansN [acr b 0, acr b 1, acr b 2] := by
  have h := chkK_ok _ (acr_lt b 0) _ (acr_lt b 1) _ (acr_lt b 2)
  unfold chkK at h
  rw [Bool.and_eq_true] at h
  have h1 := Nat.eq_of_beq_eq_true h.1
  have h2 := Nat.eq_of_beq_eq_true h.2
  rw [kindsM_congr fun k hk => (mR_told b hb k hk).trans (told_tN _ _ _ _), kindsM_congr fun k hk => (mQ_told b hb k hk).trans (told_tN _ _ _ _), dwn_dN, dwn_dN, dwn_dN]
  exact ⟨h1.trans h2.symm, h2⟩

noncomputable def Three (g : Nat → Str) : Prop := [g 0, g 1, g 2].Nodup
noncomputable def Of3 (g : Nat → Str) (X : List Str) (m : Nat → Bool) : Prop := ∀ x, x ∈ X ↔ ∃ i, i < 3 ∧ x = g i ∧ m i = true
theorem three_inj {g : Nat → Str} (h : Three g) {i j : Nat} (hi : i < 3) (hj : j < 3) (e : g i = g j) : i = j := by
  unfold Three at h
  simp only [List.nodup_cons, List.mem_cons, List.not_mem_nil, or_false, not_or, List.nodup_nil, and_true, not_false_eq_true] at h
  obtain ⟨⟨h1, h2⟩, h3⟩ := h
  have hi' : i = 0 ∨ i = 1 ∨ i = 2 := cases3 (by first | assumption | omega)
  have hj' : j = 0 ∨ j = 1 ∨ j = 2 := cases3 (by first | assumption | omega)
  rcases hi' with rfl | rfl | rfl <;> rcases hj' with rfl | rfl | rfl <;> first | rfl | exact absurd e h1 | exact absurd e.symm h1 | exact absurd e h2 | exact absurd e.symm h2 | exact absurd e h3 | exact absurd e.symm h3
theorem Of3.bit {g : Nat → Str} {X : List Str} {m : Nat → Bool} (h3 : Three g) (h : Of3 g X m) {i : Nat} (hi : i < 3) : X.contains (g i) = m i := by
  rw [Bool.eq_iff_iff, List.contains_iff_mem, h]
  constructor
  · rintro ⟨j, hj, e, hm⟩
    rw [three_inj h3 hi hj e]; exact hm
  · intro hm; exact ⟨i, hi, rfl, hm⟩
theorem Of3.mk_eq {g : Nat → Str} {X : List Str} {m : Nat → Bool} (h3 : Three g) (h : Of3 g X m) : mk (g 0) (g 1) (g 2) X = mix (m 0) (m 1) (m 2) := by
  unfold mk
  rw [h.bit h3 (by decide), h.bit h3 (by decide), h.bit h3 (by decide)]
theorem mix_inj {a b e a' b' e' : Bool} (h : mix a b e = mix a' b' e') : a = a' ∧ b = b' ∧ e = e' := by
  cases a <;> cases b <;> cases e <;> cases a' <;> cases b' <;> cases e' <;> first | exact ⟨rfl, rfl, rfl⟩ | exact absurd h (by decide)
theorem cmp_mix {g : Nat → Str} {X Y : List Str} {m m' : Nat → Bool} (h3 : Three g) (h : Of3 g X m) (h' : Of3 g Y m') : cmpS X Y = (mix (m 0) (m 1) (m 2) == mix (m' 0) (m' 1) (m' 2)) := by
  rw [Bool.eq_iff_iff, cmpS_iff, beq_iff_eq]
  constructor
  · intro hxy
    have : ∀ i, i < 3 → m i = m' i := fun i hi => by
      rw [← h.bit h3 hi, ← h'.bit h3 hi, Bool.eq_iff_iff, List.contains_iff_mem, List.contains_iff_mem]
      exact hxy _
    rw [this 0 (by decide), this 1 (by decide), this 2 (by decide)]
  · intro e
    obtain ⟨e0, e1, e2⟩ := mix_inj e
    have : ∀ i, i < 3 → m i = m' i := fun i hi => by
      have : i = 0 ∨ i = 1 ∨ i = 2 := cases3 (by first | assumption | omega)
      rcases this with rfl | rfl | rfl
      · exact e0
      · exact e1
      · exact e2
    intro x
    rw [h, h']
    constructor
    · rintro ⟨i, hi, e, hm⟩; exact ⟨i, hi, e, this i hi ▸ hm⟩
    · rintro ⟨i, hi, e, hm⟩; exact ⟨i, hi, e, (this i hi).symm ▸ hm⟩
theorem sel_of3 {g : Nat → Str} {m : Nat → Bool} : Of3 g (sel (g 0) (g 1) (g 2) (m 0) (m 1) (m 2)) m := by
  intro x
  unfold sel
  simp only [List.mem_append]
  constructor
  · rintro (h | h | h) <;> split at h <;> simp at h
    · rename_i hm; exact ⟨0, by decide, h, hm⟩
    · rename_i hm; exact ⟨1, by decide, h, hm⟩
    · rename_i hm; exact ⟨2, by decide, h, hm⟩
  · rintro ⟨i, hi, e, hm⟩
    have : i = 0 ∨ i = 1 ∨ i = 2 := cases3 (by first | assumption | omega)
    rcases this with rfl | rfl | rfl
    · left; rw [if_pos hm]; simp [e]
    · right; left; rw [if_pos hm]; simp [e]
    · right; right; rw [if_pos hm]; simp [e]
theorem sel_nodup {g : Nat → Str} (h3 : Three g) (a b e : Bool) : (sel (g 0) (g 1) (g 2) a b e).Nodup := by
  unfold Three at h3
  have : (sel (g 0) (g 1) (g 2) a b e).Sublist [g 0, g 1, g 2] := by
    unfold sel
    cases a <;> cases b <;> cases e <;> simp
  exact this.nodup h3
theorem sort_sel {g : Nat → Str} {X : List Str} {m m' : Nat → Bool} (h3 : Three g) (h : Of3 g X m) (hm : ∀ i, i < 3 → m' i = m i) : sortS (nubS X) = sortS (sel (g 0) (g 1) (g 2) (m' 0) (m' 1) (m' 2)) := by
  refine sd_unique (sortS_sd _) (sortS_sd _) ((sortS_perm _).trans (List.Perm.trans ?_ (sortS_perm _).symm))
  refine (List.perm_ext_iff_of_nodup (nubS_nodup X) (sel_nodup h3 _ _ _)).mpr fun x => ?_
  rw [mem_nubS, h, sel_of3]
  constructor
  · rintro ⟨i, hi, e, q⟩; exact ⟨i, hi, e, (hm i hi) ▸ q⟩
  · rintro ⟨i, hi, e, q⟩; exact ⟨i, hi, e, (hm i hi).symm ▸ q⟩
theorem kinds_mix {g : Nat → Str} {L : Nat → List Str} {m : Nat → Nat → Bool} (h3 : Three g) (h : ∀ k, Of3 g (L k) (m k)) : (kindsL L (List.range 8)).length = kindsM fun k => mix (m k 0) (m k 1) (m k 2) := by
  have key : ∀ (ns : List Nat) (js : List Nat), (ns.foldl (fun ks i => if ks.any (cmpS (L i)) then ks else L i :: ks) (js.map L)).length = (ns.foldl (fun ks i => if ks.contains (mix (m i 0) (m i 1) (m i 2)) then ks else mix (m i 0) (m i 1) (m i 2) :: ks) (js.map fun k => mix (m k 0) (m k 1) (m k 2))).length := by
    intro ns
    induction ns with
    | nil => intro js; simp
    | cons i ns ih =>
      intro js
      simp only [List.foldl_cons]
      have e : (js.map L).any (cmpS (L i)) = (js.map fun k => mix (m k 0) (m k 1) (m k 2)).contains (mix (m i 0) (m i 1) (m i 2)) := by
        rw [List.any_map]
        induction js with
        | nil => rfl
        | cons j js ihj =>
          simp only [List.any_cons, List.map_cons, List.contains_cons, ihj]
          congr 1
          exact cmp_mix h3 (h i) (h j)
      rw [e]
      split
      · exact ih js
      · exact ih (i :: js)
  exact key (List.range 8) []

theorem of3_R {p b : Nat} {l : List Nat} (hl : ∀ s, s ∈ l ↔ s < 9 ∧ b.testBit s = true) (k : Nat) : Of3 (nS p) ((l.filter fun s => k.testBit (s / 3)).map fun s => nS p (s % 3)) (bitR b k) := by
  intro x
  rw [List.mem_map]
  constructor
  · rintro ⟨s, hs, rfl⟩
    obtain ⟨h1, h2⟩ := List.mem_filter.mp hs
    obtain ⟨h3, h4⟩ := (hl s).mp h1
    refine ⟨s % 3, Nat.mod_lt _ (by decide), rfl, ?_⟩
    exact List.any_eq_true.mpr ⟨s, List.mem_range.mpr h3, by simp [h4, h2]⟩
  · rintro ⟨i, hi, rfl, hm⟩
    obtain ⟨s, hs, hb⟩ := List.any_eq_true.mp hm
    simp only [Bool.and_eq_true, beq_iff_eq] at hb
    exact ⟨s, List.mem_filter.mpr ⟨(hl s).mpr ⟨List.mem_range.mp hs, hb.1⟩, hb.2.1⟩, by rw [hb.2.2]⟩
theorem of3_Q {p b : Nat} {l : List Nat} (hl : ∀ s, s ∈ l ↔ s < 9 ∧ b.testBit s = true) (k : Nat) : Of3 (fS p) ((l.filter fun s => k.testBit (s % 3)).map fun s => fS p (s / 3)) (bitQ b k) := by
  intro x
  rw [List.mem_map]
  constructor
  · rintro ⟨s, hs, rfl⟩
    obtain ⟨h1, h2⟩ := List.mem_filter.mp hs
    obtain ⟨h3, h4⟩ := (hl s).mp h1
    refine ⟨s / 3, by omega, rfl, ?_⟩
    exact List.any_eq_true.mpr ⟨s, List.mem_range.mpr h3, by simp [h4, h2]⟩
  · rintro ⟨i, hi, rfl, hm⟩
    obtain ⟨s, hs, hb⟩ := List.any_eq_true.mp hm
    simp only [Bool.and_eq_true, beq_iff_eq] at hb
    exact ⟨s, List.mem_filter.mpr ⟨(hl s).mpr ⟨List.mem_range.mp hs, hb.1⟩, hb.2.1⟩, by rw [hb.2.2]⟩
end

section
theorem compP_map {α : Type} {j : Nat} {base : List Slot} {T : SF Bool} {F : SF PV} (hn : noMeth base = true) (g : α → PV) (t : α → Bool) (f : α → PV) : ∀ (as : List α), (∀ a ∈ as, T (base.set j (.val (g a))) = some (t a) ∧ (t a = true → F (base.set j (.val (g a))) = some (f a))) →
    ∀ y, notM y → compP (bd1 j) T F (as.map g) (base.set j y) = some ((as.filter t).map f)
  | [], _, _, _ => rfl
  | a :: as, h, y, hy => by
    obtain ⟨h1, h2⟩ := h a List.mem_cons_self
    have hb : bd1 j (g a) (base.set j y) = base.set j (.val (g a)) := by
      unfold bd1
      rw [clr_noMeth (noMeth_set hn hy), List.set_set]
    have ih := compP_map hn g t f as (fun z hz => h z (List.mem_cons_of_mem _ hz)) (.val (g a)) notM_val
    rw [List.map_cons]
    unfold compP
    rw [hb, h1]
    cases ht : t a with
    | true =>
      show ((F _).bind fun v => _) = _
      rw [h2 ht]
      show (compP _ _ _ _ _).map _ = _
      rw [ih, List.filter_cons_of_pos (by simpa using ht)]; rfl
    | false =>
      show compP _ _ _ _ _ = _
      rw [ih, List.filter_cons_of_neg (by simp [ht])]
noncomputable def rangeArgsG (f : Int → Option (List PV)) (g : Int → Int → Int → Option (List PV)) (args : List PV) : Option (List PV) := match args1 args with
  | some a => (aInt a).bind f
  | none => (args3 args).bind fun p => (aInt p.1).bind fun a => (aInt p.2.1).bind fun b => (aInt p.2.2).bind fun cc => g a b cc
theorem rangeArgsG_1 (f g) (n : Int) : rangeArgsG f g [.int n] = f n := rfl
theorem rangeArgs_G (args) : rangeArgs args = rangeArgsG range1 range3 args := by unfold rangeArgs rangeArgsG; rfl
theorem range_list (m : Nat) (h : (Builtin.Range.small 0 m 1 && decide (Builtin.Range.rangeSize 0 m 1 = ((m : Int).toNat : Int))) = true) : rangeArgs [.int (m : Nat)] = some ((List.range m).map fun i => PV.int (i : Nat)) := by
  rw [Bool.and_eq_true, decide_eq_true_eq] at h
  have hr : range1 (m : Int) = some ((List.range m).map fun i => PV.int (i : Nat)) := by
    unfold range1
    rw [if_pos h]
    unfold rangeP
    simp
  exact (rangeArgs_G _).trans ((rangeArgsG_1 range1 range3 m).trans hr)
theorem cd_mod (n : Nat) : cd n = cd (n % 64) := by
  funext i
  unfold cd
  have hs : strideN n = strideN (n % 64) := by
    unfold strideN
    rw [show n % 64 = n % (8 * 8) from rfl, dm64 n 4 8 (by decide)]
  rw [hs]
  have : (n + strideN (n % 64) * i) % 8 = (n % 64 + strideN (n % 64) * i) % 8 := by
    generalize strideN (n % 64) * i = x
    rw [Nat.add_mod, Nat.add_mod (n % 64), Nat.mod_mod_of_dvd n (by decide : 8 ∣ 64)]
  rw [this]
noncomputable def stN (t : Nat) : Nat := [1, 4, 5, 8].getD (t / 9 % 4) 1
noncomputable def spL (t : Nat) : List Nat := (List.range 9).map fun s => (t + stN t * s) % 9
theorem spL_mem {t s : Nat} : s ∈ spL t ↔ s < 9 := by
  have e : spL t = spL (t % 36) := by
    unfold spL
    refine List.map_congr_left fun s _ => ?_
    have : stN t = stN (t % 36) := by
      unfold stN
      rw [show t % 36 = t % (9 * 4) from rfl, Nat.mod_mul_right_div_self, Nat.mod_mod]
    rw [this]
    generalize stN (t % 36) * s = x
    rw [Nat.add_mod, Nat.add_mod (t % 36), Nat.mod_mod_of_dvd t (by decide : 9 ∣ 36)]
  have key : ∀ r, r < 36 → ∀ s, s < 9 → s ∈ spL r := by decide +kernel
  constructor
  · intro h
    obtain ⟨x, _, rfl⟩ := List.mem_map.mp h
    exact Nat.mod_lt _ (by decide)
  · intro h
    rw [e]
    exact key _ (Nat.mod_lt _ (by decide)) s h
theorem item4 (a b c d : PV) {x : Nat} (h : x < 4) : item2 (.list [a, b, c, d]) (.int (x : Nat)) = some ([a, b, c, d].getD x a) := by
  unfold item2
  dsimp only
  rw [if_pos ⟨by omega, by omega⟩, Int.toNat_natCast]
  have : x = 0 ∨ x = 1 ∨ x = 2 ∨ x = 3 := cases4 (by first | assumption | omega)
  rcases this with rfl | rfl | rfl | rfl <;> rfl
theorem item3 (a b c : PV) {x : Nat} (h : x < 3) : item2 (.list [a, b, c]) (.int (x : Nat)) = some ([a, b, c].getD x a) := by
  unfold item2
  dsimp only
  rw [if_pos ⟨by omega, by omega⟩, Int.toNat_natCast]
  have : x = 0 ∨ x = 1 ∨ x = 2 := cases3 (by first | assumption | omega)
  rcases this with rfl | rfl | rfl <;> rfl
theorem sign_at : ∀ x, x < 8 → isStrB (item2 (.str "^-a]~[\\b") (.int (x : Nat))) ⟨#[codesW.getD x 0]⟩ = true := by decide +kernel
theorem truth_bit (B s : Nat) : truth (.int ((B / 2 ^ s % 2 : Nat) : Int)) = some (B.testBit s) := by
  show some (((B / 2 ^ s % 2 : Nat) : Int) != 0) = _
  rw [Nat.testBit_eq_decide_div_mod_eq]
  congr 1
  have : B / 2 ^ s % 2 < 2 := Nat.mod_lt _ (by decide)
  rw [Bool.eq_iff_iff, bne_iff_ne, decide_eq_true_eq]
  omega
end

section
theorem asgC_noMeth {i : Nat} {F : SF PV} {Γ : List Slot} {v : PV} (h : noMeth Γ = true) (e : F Γ = some v) : (F Γ).map (fun v => Out.next ((clr i Γ).set i (.val v))) = some (.next (Γ.set i (.val v))) := by
  rw [e]; show some (Out.next ((clr i Γ).set i _)) = _; rw [clr_noMeth h]
theorem divv {F G : SF PV} {Γ : List Slot} {a b : Nat} (h1 : F Γ = some (.int a)) (h2 : G Γ = some (.int b)) (h0 : b ≠ 0) (h : b < 2 ^ 30) : app2 divP F G Γ = some (.int ((a / b : Nat) : Int)) := (app2_eq h1 h2).trans (divP_nat h0 h)
theorem modv {F G : SF PV} {Γ : List Slot} {a b : Nat} (h1 : F Γ = some (.int a)) (h2 : G Γ = some (.int b)) (h0 : b ≠ 0) : app2 modP F G Γ = some (.int ((a % b : Nat) : Int)) := (app2_eq h1 h2).trans (modP_nat h0)
theorem addv {F G : SF PV} {Γ : List Slot} {a b : Nat} (h1 : F Γ = some (.int a)) (h2 : G Γ = some (.int b)) : app2 addP F G Γ = some (.int ((a + b : Nat) : Int)) := (app2_eq h1 h2).trans (by show some (PV.int ((a : Int) + b)) = _; rw [Int.natCast_add])
theorem mulv {F G : SF PV} {Γ : List Slot} {a b : Nat} (h1 : F Γ = some (.int a)) (h2 : G Γ = some (.int b)) (h : b < 10) : app2 mulP F G Γ = some (.int ((a * b : Nat) : Int)) := (app2_eq h1 h2).trans (mul_small h)
theorem stride_eq {n : Nat} {F : SF PV} {Γ : List Slot} (h : F Γ = some (.int n)) : app2 item2 (fun Γ => (consF (fun x => some (PV.int 1)) (consF (fun x => some (PV.int 3)) (consF (fun x => some (PV.int 5)) (consF (fun x => some (PV.int 7)) fun x => some []))) Γ).bind fun vs => if vs.length ≤ sizeLine then some (PV.list vs) else none) (app2 modP (app2 divP F fun x => some (PV.int 8)) fun x => some (PV.int 4)) Γ = some (.int (strideN n)) := by
  refine (app2_eq (a := .list [.int 1, .int 3, .int 5, .int 7]) (b := .int ((n / 8 % 4 : Nat) : Int)) ?_ (modv (divv h (b := 8) rfl (by decide) (by decide)) (b := 4) rfl (by decide))).trans ?_
  · show (if ([.int 1, .int 3, .int 5, .int 7] : List PV).length ≤ sizeLine then _ else none) = _
    exact if_pos (by decide)
  · have hx : n / 8 % 4 < 4 := Nat.mod_lt _ (by decide)
    rw [item4 _ _ _ _ hx]
    unfold strideN
    have : n / 8 % 4 = 0 ∨ n / 8 % 4 = 1 ∨ n / 8 % 4 = 2 ∨ n / 8 % 4 = 3 := cases4 (by first | assumption | omega)
    rcases this with h | h | h | h <;> rw [h] <;> rfl
theorem step_eq {n : Nat} {F : SF PV} {Γ : List Slot} (h : F Γ = some (.int n)) : app2 item2 (fun Γ => (consF (fun x => some (PV.int 1)) (consF (fun x => some (PV.int 4)) (consF (fun x => some (PV.int 5)) (consF (fun x => some (PV.int 8)) fun x => some []))) Γ).bind fun vs => if vs.length ≤ sizeLine then some (PV.list vs) else none) (app2 modP (app2 divP F fun x => some (PV.int 9)) fun x => some (PV.int 4)) Γ = some (.int (stN n)) := by
  refine (app2_eq (a := .list [.int 1, .int 4, .int 5, .int 8]) (b := .int ((n / 9 % 4 : Nat) : Int)) ?_ (modv (divv h (b := 9) rfl (by decide) (by decide)) (b := 4) rfl (by decide))).trans ?_
  · show (if ([.int 1, .int 4, .int 5, .int 8] : List PV).length ≤ sizeLine then _ else none) = _
    exact if_pos (by decide)
  · have hx : n / 9 % 4 < 4 := Nat.mod_lt _ (by decide)
    rw [item4 _ _ _ _ hx]
    unfold stN
    have : n / 9 % 4 = 0 ∨ n / 9 % 4 = 1 ∨ n / 9 % 4 = 2 ∨ n / 9 % 4 = 3 := cases4 (by first | assumption | omega)
    rcases this with h | h | h | h <;> rw [h] <;> rfl
theorem comp_signs {n : Nat} {Γ : List Slot} {caps : List (Option Nat)} (hc : compΓ caps Γ = [.un, .val (.int n), .val (.int (strideN n))]) :
    compF (bd1 0) caps (fun Γ => (consF (fun x => some (PV.int 6)) (fun x => some []) Γ).bind rangeArgs) (fun x => some true) (app2 item2 (fun x => some (PV.str "^-a]~[\\b")) (app2 modP (app2 addP (rd 1) (app2 mulP (rd 2) (rd 0))) fun x => some (PV.int 8))) Γ = some (LV [fS n 0, fS n 1, fS n 2, nS n 0, nS n 1, nS n 2]) := by
  refine compF_eq (range_list 6 (by decide +kernel)) (by simp [sizeLine]) hc ?_
  have := compP_map (j := 0) (base := [.un, .val (.int n), .val (.int (strideN n))]) (T := fun _ => some true) (F := app2 item2 (fun x => some (PV.str "^-a]~[\\b")) (app2 modP (app2 addP (rd 1) (app2 mulP (rd 2) (rd 0))) fun x => some (PV.int 8))) rfl (fun i : Nat => PV.int i) (fun _ => true) (fun i => .str ⟨#[cd n i]⟩) (List.range 6) (fun i hi => by
    refine ⟨rfl, fun _ => ?_⟩
    have hi' := List.mem_range.mp hi
    refine (app2_eq (a := .str "^-a]~[\\b") (b := .int (((n + strideN n * i) % 8 : Nat) : Int)) rfl (modv (addv rfl (mulv (a := strideN n) (b := i) rfl rfl (by omega))) (b := 8) rfl (by decide))).trans ?_
    have h8 : (n + strideN n * i) % 8 < 8 := Nat.mod_lt _ (by decide)
    rw [isStrB_eq (sign_at _ h8)]; rfl) .un notM_un
  refine Eq.trans this ?_
  rfl
theorem comp_spots {t : Nat} {Γ : List Slot} {caps : List (Option Nat)} (hc : compΓ caps Γ = [.un, .val (.int t)]) :
    compF (bd1 0) caps (fun Γ => (consF (fun x => some (PV.int 9)) (fun x => some []) Γ).bind rangeArgs) (fun x => some true) (app2 modP (app2 addP (rd 1) (app2 mulP (app2 item2 (fun Γ => (consF (fun x => some (PV.int 1)) (consF (fun x => some (PV.int 4)) (consF (fun x => some (PV.int 5)) (consF (fun x => some (PV.int 8)) fun x => some []))) Γ).bind fun vs => if vs.length ≤ sizeLine then some (PV.list vs) else none) (app2 modP (app2 divP (rd 1) fun x => some (PV.int 9)) fun x => some (PV.int 4))) (rd 0))) fun x => some (PV.int 9)) Γ = some (.list ((spL t).map fun s => PV.int (s : Nat))) := by
  refine compF_eq (range_list 9 (by decide +kernel)) (by simp [sizeLine]) hc ?_
  have := compP_map (j := 0) (base := [.un, .val (.int t)]) (T := fun _ => some true) (F := app2 modP (app2 addP (rd 1) (app2 mulP (app2 item2 (fun Γ => (consF (fun x => some (PV.int 1)) (consF (fun x => some (PV.int 4)) (consF (fun x => some (PV.int 5)) (consF (fun x => some (PV.int 8)) fun x => some []))) Γ).bind fun vs => if vs.length ≤ sizeLine then some (PV.list vs) else none) (app2 modP (app2 divP (rd 1) fun x => some (PV.int 9)) fun x => some (PV.int 4))) (rd 0))) fun x => some (PV.int 9)) rfl (fun i : Nat => PV.int i) (fun _ => true) (fun i => .int (((t + stN t * i) % 9 : Nat) : Int)) (List.range 9) (fun i hi => by
    refine ⟨rfl, fun _ => ?_⟩
    have hi' := List.mem_range.mp hi
    exact modv (addv rfl (mulv (a := stN t) (b := i) (step_eq rfl) rfl (by omega))) (b := 9) rfl (by decide)) .un notM_un
  refine Eq.trans this ?_
  rw [List.filter_eq_self.mpr fun _ _ => rfl]
  unfold spL
  rw [List.map_map]; rfl
theorem comp_listing {n B t : Nat} {Γ : List Slot} {caps : List (Option Nat)} {L : SF (List PV)} (hL : L Γ = some ((spL t).map fun s => PV.int (s : Nat))) (hc : compΓ caps Γ = [.un, .val (.int B), .val (LV [fS n 0, fS n 1, fS n 2]), .val (LV [nS n 0, nS n 1, nS n 2])]) :
    compF (bd1 0) caps L (fun Γ => (app2 modP (app2 divP (rd 1) (app2 powP (fun x => some (PV.int 2)) (rd 0))) (fun x => some (PV.int 2)) Γ).bind truth) (fun Γ => (consF (fun x => some (PV.str "/")) (consF (app2 item2 (rd 2) (app2 divP (rd 0) fun x => some (PV.int 3))) (consF (app2 item2 (rd 3) (app2 modP (rd 0) fun x => some (PV.int 3))) fun x => some [])) Γ).bind tr_join.1) Γ = some (LV (((spL t).filter fun s => B.testBit s).map (pS n))) := by
  refine compF_eq hL (by rw [List.length_map]; unfold spL; simp [sizeLine]) hc ?_
  have := compP_map (j := 0) (base := [.un, .val (.int B), .val (LV [fS n 0, fS n 1, fS n 2]), .val (LV [nS n 0, nS n 1, nS n 2])]) (T := fun Γ => (app2 modP (app2 divP (rd 1) (app2 powP (fun x => some (PV.int 2)) (rd 0))) (fun x => some (PV.int 2)) Γ).bind truth) (F := fun Γ => (consF (fun x => some (PV.str "/")) (consF (app2 item2 (rd 2) (app2 divP (rd 0) fun x => some (PV.int 3))) (consF (app2 item2 (rd 3) (app2 modP (rd 0) fun x => some (PV.int 3))) fun x => some [])) Γ).bind tr_join.1) rfl (fun i : Nat => PV.int i) (fun s => B.testBit s) (fun s => .str (pS n s)) (spL t) (fun s hs => by
    have h9 := spL_mem.mp hs
    have hp := pow_nat s (by omega)
    refine ⟨?_, fun _ => ?_⟩
    · have e : app2 modP (app2 divP (rd 1) (app2 powP (fun x => some (PV.int 2)) (rd 0))) (fun x => some (PV.int 2)) ([.un, .val (.int B), .val (LV [fS n 0, fS n 1, fS n 2]), .val (LV [nS n 0, nS n 1, nS n 2])].set 0 (.val (.int (s : Nat)))) = some (.int ((B / 2 ^ s % 2 : Nat) : Int)) :=
        modv (divv rfl ((app2_eq rfl rfl).trans hp) (Nat.ne_of_gt (Nat.pow_pos (by decide))) (Nat.lt_of_le_of_lt (Nat.pow_le_pow_right (by decide) (Nat.le_of_lt_succ (Nat.lt_succ_of_lt h9))) (by decide : 2 ^ 9 < 2 ^ 30))) (b := 2) rfl (by decide)
      exact (congrArg (fun z => Option.bind z truth) e).trans (truth_bit B s)
    · have e : consF (fun x => some (PV.str "/")) (consF (app2 item2 (rd 2) (app2 divP (rd 0) fun x => some (PV.int 3))) (consF (app2 item2 (rd 3) (app2 modP (rd 0) fun x => some (PV.int 3))) fun x => some [])) ([.un, .val (.int B), .val (LV [fS n 0, fS n 1, fS n 2]), .val (LV [nS n 0, nS n 1, nS n 2])].set 0 (.val (.int (s : Nat)))) = some [.str "/", .str (fS n (s / 3)), .str (nS n (s % 3))] := by
        refine consF_eq rfl (consF_eq ?_ (consF_eq ?_ rfl))
        · refine (app2_eq (a := LV [fS n 0, fS n 1, fS n 2]) (b := .int ((s / 3 : Nat) : Int)) rfl (divv rfl (b := 3) rfl (by decide) (by decide))).trans ?_
          have h3 : s / 3 < 3 := by omega
          show item2 (.list [.str (fS n 0), .str (fS n 1), .str (fS n 2)]) _ = _
          rw [item3 _ _ _ h3]
          have : s / 3 = 0 ∨ s / 3 = 1 ∨ s / 3 = 2 := cases3 (by first | assumption | omega)
          rcases this with h | h | h <;> rw [h] <;> rfl
        · refine (app2_eq (a := LV [nS n 0, nS n 1, nS n 2]) (b := .int ((s % 3 : Nat) : Int)) rfl (modv rfl (b := 3) rfl (by decide))).trans ?_
          have h3 : s % 3 < 3 := by omega
          show item2 (.list [.str (nS n 0), .str (nS n 1), .str (nS n 2)]) _ = _
          rw [item3 _ _ _ h3]
          have : s % 3 = 0 ∨ s % 3 = 1 ∨ s % 3 = 2 := cases3 (by first | assumption | omega)
          rcases this with h | h | h <;> rw [h] <;> rfl
      exact (congrArg (fun z => Option.bind z tr_join.1) e).trans (F_join n s)) .un notM_un
  refine Eq.trans this ?_
  rw [List.map_map]; rfl
theorem comp_across {B : Nat} {Γ : List Slot} {caps : List (Option Nat)} (hc : compΓ caps Γ = [.un, .val (.int B)]) :
    compF (bd1 0) caps (fun Γ => (consF (fun x => some (PV.int 3)) (fun x => some []) Γ).bind rangeArgs) (fun x => some true) (app2 modP (app2 divP (rd 1) (app2 powP (fun x => some (PV.int 8)) (rd 0))) fun x => some (PV.int 8)) Γ = some (.list [.int (acr B 0 : Nat), .int (acr B 1 : Nat), .int (acr B 2 : Nat)]) := by
  refine compF_eq (range_list 3 (by decide +kernel)) (by simp [sizeLine]) hc ?_
  have := compP_map (j := 0) (base := [.un, .val (.int B)]) (T := fun _ => some true) (F := app2 modP (app2 divP (rd 1) (app2 powP (fun x => some (PV.int 8)) (rd 0))) fun x => some (PV.int 8)) rfl (fun i : Nat => PV.int i) (fun _ => true) (fun j => .int (acr B j : Nat)) (List.range 3) (fun i hi => by
    refine ⟨rfl, fun _ => ?_⟩
    have hi' := List.mem_range.mp hi
    exact modv (divv rfl ((app2_eq rfl rfl).trans (pow8_nat i hi')) (Nat.ne_of_gt (Nat.pow_pos (by decide))) (Nat.lt_of_le_of_lt (Nat.pow_le_pow_right (by decide) (Nat.le_of_lt hi')) (by decide : 8 ^ 3 < 2 ^ 30))) (b := 8) rfl (by decide)) .un notM_un
  refine Eq.trans this ?_
  rfl
theorem comp_down {a0 a1 a2 : Nat} {Γ : List Slot} {caps caps2 : List (Option Nat)} (hc : compΓ caps Γ = [.un, .val (.list [.int a0, .int a1, .int a2])]) (hc2 : caps2 = [none, none, some 0]) :
    compF (bd1 0) caps (fun Γ => (consF (fun x => some (PV.int 3)) (fun x => some []) Γ).bind rangeArgs) (fun x => some true)
      (fun Γ => (consF (compF (bd2 0 1) caps2 (fun Γ => (consF (rd 1) (fun x => some []) Γ).bind enumArgs2) (fun x => some true) (app2 mulP (app2 modP (app2 divP (rd 1) (app2 powP (fun x => some (PV.int 2)) (rd 2))) fun x => some (PV.int 2)) (app2 powP (fun x => some (PV.int 2)) (rd 0)))) (fun x => some []) Γ).bind sumP) Γ
      = some (.list [.int ((a0 / 2 ^ 0 % 2 * 2 ^ 0 + a1 / 2 ^ 0 % 2 * 2 ^ 1 + a2 / 2 ^ 0 % 2 * 2 ^ 2 : Nat) : Int), .int ((a0 / 2 ^ 1 % 2 * 2 ^ 0 + a1 / 2 ^ 1 % 2 * 2 ^ 1 + a2 / 2 ^ 1 % 2 * 2 ^ 2 : Nat) : Int), .int ((a0 / 2 ^ 2 % 2 * 2 ^ 0 + a1 / 2 ^ 2 % 2 * 2 ^ 1 + a2 / 2 ^ 2 % 2 * 2 ^ 2 : Nat) : Int)]) := by
  subst hc2
  refine compF_eq (range_list 3 (by decide +kernel)) (by simp [sizeLine]) hc ?_
  have := compP_map (j := 0) (base := [.un, .val (.list [.int a0, .int a1, .int a2])]) (T := fun _ => some true) (F := fun Γ => (consF (compF (bd2 0 1) [none, none, some 0] (fun Γ => (consF (rd 1) (fun x => some []) Γ).bind enumArgs2) (fun x => some true) (app2 mulP (app2 modP (app2 divP (rd 1) (app2 powP (fun x => some (PV.int 2)) (rd 2))) fun x => some (PV.int 2)) (app2 powP (fun x => some (PV.int 2)) (rd 0)))) (fun x => some []) Γ).bind sumP) rfl (fun i : Nat => PV.int i) (fun _ => true) (fun j => .int ((a0 / 2 ^ j % 2 * 2 ^ 0 + a1 / 2 ^ j % 2 * 2 ^ 1 + a2 / 2 ^ j % 2 * 2 ^ 2 : Nat) : Int)) (List.range 3) (fun i hi => by
    refine ⟨rfl, fun _ => ?_⟩
    have hi' := List.mem_range.mp hi
    have inner : compF (bd2 0 1) [none, none, some 0] (fun Γ => (consF (rd 1) (fun x => some []) Γ).bind enumArgs2) (fun x => some true) (app2 mulP (app2 modP (app2 divP (rd 1) (app2 powP (fun x => some (PV.int 2)) (rd 2))) fun x => some (PV.int 2)) (app2 powP (fun x => some (PV.int 2)) (rd 0))) ([.un, .val (.list [.int a0, .int a1, .int a2])].set 0 (.val (.int (i : Nat)))) =
        some (.list [.int ((a0 / 2 ^ i % 2 * 2 ^ 0 : Nat) : Int), .int ((a1 / 2 ^ i % 2 * 2 ^ 1 : Nat) : Int), .int ((a2 / 2 ^ i % 2 * 2 ^ 2 : Nat) : Int)]) := by
      refine compF_eq (xs := [(PV.int (0 : Nat), PV.int a0), (PV.int (1 : Nat), PV.int a1), (PV.int (2 : Nat), PV.int a2)].map fun x => .tuple [x.1, x.2]) (Γ' := [.un, .un, .val (.int (i : Nat))]) rfl (by simp [sizeLine]) rfl ?_
      have one : ∀ (s a : Nat), s < 3 → app2 mulP (app2 modP (app2 divP (rd 1) (app2 powP (fun x => some (PV.int 2)) (rd 2))) fun x => some (PV.int 2)) (app2 powP (fun x => some (PV.int 2)) (rd 0)) (([.un, .un, .val (.int (i : Nat))].set 0 (.val (.int (s : Nat)))).set 1 (.val (.int a))) = some (.int ((a / 2 ^ i % 2 * 2 ^ s : Nat) : Int)) := fun s a hs => by
        have p2 : 2 ^ s < 10 := by
          have : s = 0 ∨ s = 1 ∨ s = 2 := cases3 (by first | assumption | omega)
          rcases this with rfl | rfl | rfl <;> decide
        exact mulv (modv (divv rfl ((app2_eq rfl rfl).trans (pow_nat i (by omega))) (Nat.ne_of_gt (Nat.pow_pos (by decide))) (Nat.lt_of_le_of_lt (Nat.pow_le_pow_right (by decide) (Nat.le_of_lt hi')) (by decide : 2 ^ 3 < 2 ^ 30))) (b := 2) rfl (by decide)) ((app2_eq rfl rfl).trans (pow_nat s (by omega))) p2
      have := compP_pair (j := 0) (l := 1) (base := [.un, .un, .val (.int (i : Nat))]) (T := fun _ => some true) (F := app2 mulP (app2 modP (app2 divP (rd 1) (app2 powP (fun x => some (PV.int 2)) (rd 2))) fun x => some (PV.int 2)) (app2 powP (fun x => some (PV.int 2)) (rd 0))) rfl (by decide) (fun _ => true)
        (fun x => match x.1, x.2 with | .int s, .int a => .int ((a.toNat / 2 ^ i % 2 * 2 ^ s.toNat : Nat) : Int) | _, _ => .none) [(PV.int (0 : Nat), PV.int a0), (PV.int (1 : Nat), PV.int a1), (PV.int (2 : Nat), PV.int a2)] (fun x hx => by
          simp only [List.mem_cons, List.not_mem_nil, or_false] at hx
          rcases hx with rfl | rfl | rfl
          · exact ⟨rfl, fun _ => one 0 a0 (by decide)⟩
          · exact ⟨rfl, fun _ => one 1 a1 (by decide)⟩
          · exact ⟨rfl, fun _ => one 2 a2 (by decide)⟩) .un .un notM_un notM_un
      exact this
    show Option.bind (Option.bind (compF _ _ _ _ _ _) _) sumP = _
    rw [inner]
    show some (PV.int (List.sum _)) = _
    simp only [List.sum_cons, List.sum_nil]
    congr 2
    omega) .un notM_un
  refine Eq.trans this ?_
  rfl
end

section
theorem acr_mod {B j : Nat} (hj : j < 3) : acr B j = acr (B % 512) j := by
  unfold acr
  have : j = 0 ∨ j = 1 ∨ j = 2 := cases3 (by first | assumption | omega)
  rcases this with rfl | rfl | rfl
  · show B / 1 % 8 = B % 512 / 1 % 8
    rw [Nat.div_one, Nat.div_one, Nat.mod_mod_of_dvd B (by decide : 8 ∣ 512)]
  · exact (dm64 B 8 64 (by decide)).symm
  · show B / 64 % 8 = B % (64 * 8) / 64 % 8
    rw [Nat.mod_mul_right_div_self, Nat.mod_mod]
theorem listed {t B s : Nat} : s ∈ (spL t).filter (fun s => B.testBit s) ↔ s < 9 ∧ (B % 512).testBit s = true := by
  rw [List.mem_filter, spL_mem]
  constructor
  · rintro ⟨h, hb⟩
    refine ⟨h, ?_⟩
    rw [show (512 : Nat) = 2 ^ 9 from rfl, Nat.testBit_mod_two_pow, hb]
    simp [h]
  · rintro ⟨h, hb⟩
    refine ⟨h, ?_⟩
    rw [show (512 : Nat) = 2 ^ 9 from rfl, Nat.testBit_mod_two_pow] at hb
    simp only [Bool.and_eq_true] at hb
    exact hb.2
theorem strOk_sign (x : Nat) (h : x ∈ codesW) : PyData.strOk ⟨#[x]⟩ = true := by
  have : ∀ x ∈ codesW, PyData.strOk ⟨#[x]⟩ = true := by decide +kernel
  exact this x h
theorem asked (B t n : Nat) :
    let q := n % 64
    let l := (spL t).filter fun s => B.testBit s
    let R := fun k : Nat => (l.filter fun s => k.testBit (s / 3)).map fun s => nS q (s % 3)
    let Q := fun k : Nat => (l.filter fun s => k.testBit (s % 3)).map fun s => fS q (s / 3)
    let T1 : PV := .dict (tabE R 0 (chs (cd q)))
    let T2 : PV := .dict (tabE Q 0 (chs (cd (twin q))))
    tr_law_rows.1 [LV [fS q 0, fS q 1, fS q 2], LV (l.map (pS q)), .int ((n / 32 : Nat) : Int)] = some T1 ∧
    tr_law_columns.1 [LV [nS q 0, nS q 1, nS q 2], LV (l.map (pS q)), .int ((n / 32 : Nat) : Int)] = some T2 ∧
    tr_law_right.1 [T1, .list [.int (acr B 0 : Nat), .int (acr B 1 : Nat), .int (acr B 2 : Nat)], LV [nS q 0, nS q 1, nS q 2]] = some (.bool true) ∧
    tr_law_right.1 [T2, .list [.int (dwn B 0 : Nat), .int (dwn B 1 : Nat), .int (dwn B 2 : Nat)], LV [fS q 0, fS q 1, fS q 2]] = some (.bool true) ∧
    tr_law_back.1 [T1, LV [nS q 0, nS q 1, nS q 2], T2, LV [fS q 0, fS q 1, fS q 2]] = some (.bool true) ∧
    tr_law_back.1 [T2, LV [fS q 0, fS q 1, fS q 2], T1, LV [nS q 0, nS q 1, nS q 2]] = some (.bool true) ∧
    ∃ m : Nat, tr_law_kinds.1 [T1] = some (.int (m : Nat)) ∧ tr_law_kinds.1 [T2] = some (.int (m : Nat)) ∧ spansP [.list [.int (acr B 0 : Nat), .int (acr B 1 : Nat), .int (acr B 2 : Nat)]] = some (.int (m : Nat)) := by
  intro q l R Q T1 T2
  have hq : q < 64 := Nat.mod_lt _ (by decide)
  obtain ⟨tw1, tw2, tw3⟩ := twin_ok q hq
  have hn : ∀ j, j < 3 → nS q j = fS (twin q) j := fun j hj => nS_twin hq hj
  have n0 := hn 0 (by decide)
  have n1 := hn 1 (by decide)
  have n2 := hn 2 (by decide)
  obtain ⟨b, hb, hb512⟩ : ∃ b, B % 512 = b ∧ b < 512 := ⟨_, rfl, Nat.mod_lt _ (by decide)⟩
  have hl : ∀ s, s ∈ l ↔ s < 9 ∧ b.testBit s = true := fun s => hb ▸ listed
  have hl9 : ∀ s ∈ l, s < 9 := fun s hs => ((hl s).mp hs).1
  have hll : l.length ≤ 9 := by
    have h1 : l.length ≤ (spL t).length := List.length_filter_le ..
    have h2 : (spL t).length = 9 := by unfold spL; simp
    omega
  have ht1 : n / 32 % 2 = q / 32 := by show n / 32 % 2 = n % 64 / 32; omega
  have P := places q
  have J1 := (judged (t := n / 32) hq ht1).1
  have J2' := (judged (q := twin q) (t := n / 32) tw1 (by rw [tw2]; exact ht1)).2
  have J2 : Judged (nS q) (chs (cd (twin q))) ((n / 32 : Nat) : Int) "/?/" "" := by
    refine ⟨by rw [n0, n1, n2]; exact J2'.choices, fun k c hc => ?_⟩
    obtain ⟨br, ba, ss, a1, a2, a3⟩ := J2'.each k c hc
    exact ⟨br, ba, ss, by rw [n0, n1, n2]; exact a1, a2, fun j hj => by rw [hn j hj]; exact a3 j hj⟩
  obtain ⟨S1, _⟩ := sysF hq
  obtain ⟨S2', _⟩ := sysF (q := twin q) tw1
  have S2 : Sys (nS q 0) (nS q 1) (nS q 2) (chs (cd (twin q))) := by rw [n0, n1, n2]; exact S2'
  have g1 : Three (fS q) := S1.nd
  have g2 : Three (nS q) := S2.nd
  have oR : ∀ k, Of3 (nS q) (R k) (bitR b k) := of3_R hl
  have oQ : ∀ k, Of3 (fS q) (Q k) (bitQ b k) := of3_Q hl
  have lR : ∀ k, (R k).length < 64 := fun k => by
    show ((l.filter _).map _).length < 64
    rw [List.length_map]
    have : (l.filter fun s => k.testBit (s / 3)).length ≤ l.length := List.length_filter_le ..
    omega
  have lQ : ∀ k, (Q k).length < 64 := fun k => by
    show ((l.filter _).map _).length < 64
    rw [List.length_map]
    have : (l.filter fun s => k.testBit (s % 3)).length ≤ l.length := List.length_filter_le ..
    omega
  have a0 : acr B 0 = acr b 0 := hb ▸ acr_mod (by decide)
  have a1 : acr B 1 = acr b 1 := hb ▸ acr_mod (by decide)
  have a2 : acr B 2 = acr b 2 := hb ▸ acr_mod (by decide)
  have hd : ∀ j, dwn B j = dwn b j := fun j => by unfold dwn; rw [a0, a1, a2]
  have fd := fact_dwn b hb512
  have mkR : ∀ k, mk (nS q 0) (nS q 1) (nS q 2) (R k) = mR b k := fun k => (oR k).mk_eq g2
  have mkQ : ∀ k, mk (fS q 0) (fS q 1) (fS q 2) (Q k) = mQ b k := fun k => (oQ k).mk_eq g1
  refine ⟨F_rows P J1 hl9 (by omega) S1.ndC (by rw [S1.len]; decide), F_columns P J2 hl9 (by omega) S2.ndC (by rw [S2.len]; decide), ?_, ?_, ?_, ?_, ?_⟩
  · rw [a0, a1, a2]
    refine F_right S1.ndC S1.len (fd 0 (by decide)).2 (fd 1 (by decide)).2 (fd 2 (by decide)).2 lR (fun x hx => ?_) fun k hk => ?_
    · simp only [List.mem_cons, List.not_mem_nil, or_false] at hx
      rcases hx with rfl | rfl | rfl <;> exact strOk_sign _ (cd_mem _ _)
    · have ft := fact_told b hb512 k hk
      exact sort_sel (m' := fun i => (toldN (acr b 0) (acr b 1) (acr b 2) k).testBit i) g2 (oR k) fun i hi => (ft i hi).1
  · rw [hd, hd, hd]
    refine F_right S2.ndC S2.len (fd 0 (by decide)).1 (fd 1 (by decide)).1 (fd 2 (by decide)).1 lQ (fun x hx => ?_) fun k hk => ?_
    · simp only [List.mem_cons, List.not_mem_nil, or_false] at hx
      rcases hx with rfl | rfl | rfl <;> exact strOk_sign _ (cd_mem _ _)
    · have ft := fact_told b hb512 k hk
      exact sort_sel (m' := fun i => (toldN (dwn b 0) (dwn b 1) (dwn b 2) k).testBit i) g1 (oQ k) fun i hi => (ft i hi).2
  · refine F_back S2 S1 (fun i => Nat.le_of_lt (Nat.lt_trans (lR i) (by decide))) fun k hk => ?_
    rw [mkR, mkQ]
    rw [cmp_mix g2 (oR _) (oR k)]
    exact beq_iff_eq.mpr (fact_back b hb512 k hk).1
  · refine F_back S1 S2 (fun i => Nat.le_of_lt (Nat.lt_trans (lQ i) (by decide))) fun k hk => ?_
    rw [mkQ, mkR]
    rw [cmp_mix g1 (oQ _) (oQ k)]
    exact beq_iff_eq.mpr (fact_back b hb512 k hk).2
  · obtain ⟨k1, k2⟩ := fact_kinds b hb512
    refine ⟨kindsM (mQ b), ?_, ?_, ?_⟩
    · rw [F_kinds S1.ndC S1.len (fun i => Nat.le_of_lt (Nat.lt_trans (lR i) (by decide))), kinds_mix g2 oR]
      exact congrArg (fun x : Nat => some (PV.int x)) k1
    · rw [F_kinds S2.ndC S2.len (fun i => Nat.le_of_lt (Nat.lt_trans (lQ i) (by decide))), kinds_mix g1 oQ]; rfl
    · rw [a0, a1, a2, k2]
      show spans3 _ _ _ = _
      unfold spans3
      have h0 := (fd 0 (by decide)).2
      have h1 := (fd 1 (by decide)).2
      have h2 := (fd 2 (by decide)).2
      rw [if_pos ⟨by omega, by omega, by omega, by omega, by omega, by omega⟩]
      simp only [Int.toNat_natCast]
end

section
theorem compΓ_of {caps caps' : List (Option Nat)} {Γ Γ' : List Slot} (h : caps = caps') (h2 : compΓ caps' Γ = Γ') : compΓ caps Γ = Γ' := h ▸ h2
theorem slice3b {a b e x y z : PV} : slicePV [a, b, e, x, y, z] (some 3) none = [x, y, z] := by
  unfold slicePV
  have h : (sliceBounds (some 3) none none [a, b, e, x, y, z].length) = (3, 6, 1) := by
    show sliceBounds (some 3) none none 6 = _
    decide +kernel
  rw [h]
  rfl
theorem slc3b {a b e x y z : Str} {F : SF PV} {L U : SF (Option Int)} {Γ : List Slot} (h : F Γ = some (LV [a, b, e, x, y, z])) (hL : L Γ = some (some 3)) (hU : U Γ = some none) : slc F L U Γ = some (LV [x, y, z]) := by
  unfold slc
  rw [h, hL, hU]
  show sliceP (.list [.str a, .str b, .str e, .str x, .str y, .str z]) (some 3) none = _
  unfold sliceP
  dsimp only
  rw [slice3b]; rfl
noncomputable def lawParts : Σ' (A B R : SF Out), tr_law.1 = fnF 1 14 (seqF A (seqF B R)) := by
  refine' ⟨_, _, _, _⟩
  rotate_left 3
  unfold tr_law
  dsimp only
  rfl
theorem asked' (B t n : Nat) : ∃ (T1 T2 : PV) (m : Nat),
    tr_law_rows.1 [LV [fS n 0, fS n 1, fS n 2], LV (((spL t).filter fun s => B.testBit s).map (pS n)), .int ((n / 32 : Nat) : Int)] = some T1 ∧
    tr_law_columns.1 [LV [nS n 0, nS n 1, nS n 2], LV (((spL t).filter fun s => B.testBit s).map (pS n)), .int ((n / 32 : Nat) : Int)] = some T2 ∧
    tr_law_right.1 [T1, .list [.int (acr B 0 : Nat), .int (acr B 1 : Nat), .int (acr B 2 : Nat)], LV [nS n 0, nS n 1, nS n 2]] = some (.bool true) ∧
    tr_law_right.1 [T2, .list [.int (dwn B 0 : Nat), .int (dwn B 1 : Nat), .int (dwn B 2 : Nat)], LV [fS n 0, fS n 1, fS n 2]] = some (.bool true) ∧
    tr_law_back.1 [T1, LV [nS n 0, nS n 1, nS n 2], T2, LV [fS n 0, fS n 1, fS n 2]] = some (.bool true) ∧
    tr_law_back.1 [T2, LV [fS n 0, fS n 1, fS n 2], T1, LV [nS n 0, nS n 1, nS n 2]] = some (.bool true) ∧
    tr_law_kinds.1 [T1] = some (.int (m : Nat)) ∧ tr_law_kinds.1 [T2] = some (.int (m : Nat)) ∧ spansP [.list [.int (acr B 0 : Nat), .int (acr B 1 : Nat), .int (acr B 2 : Nat)]] = some (.int (m : Nat)) := by
  have hf : fS n = fS (n % 64) := by funext j; unfold fS; rw [cd_mod n]
  have hn : nS n = nS (n % 64) := by funext j; unfold nS; rw [cd_mod n]
  have hp : pS n = pS (n % 64) := by funext s; unfold pS; rw [cd_mod n]
  obtain ⟨r1, r2, r3, r4, r5, r6, m, r7, r8, r9⟩ := asked B t n
  rw [hf, hn, hp]
  exact ⟨_, _, m, r1, r2, r3, r4, r5, r6, r7, r8, r9⟩
theorem orF_ff {T U : SF Bool} {Γ : List Slot} (h1 : T Γ = some false) (h2 : U Γ = some false) : orF T U Γ = some false := by
  unfold orF; rw [h1]; exact h2
theorem law_tail (sc dr : PV) (B t n : Nat) : lawParts.2.2.1 [.val sc, .val dr, .val (.int (B : Nat)), .val (.int (t : Nat)), .val (.int (n : Nat)), .un, .un, .un, .un, .un, .un, .un, .un, .un, .un] = some (.ret (.bool true)) := by
  unfold lawParts
  dsimp only
  obtain ⟨T1, T2, m, r1, r2, r3, r4, r5, r6, r7, r8, r9⟩ := asked' B t n
  generalize hst : strideN n = st
  refine seqF_next (Γ' := [.val sc, .val dr, .val (.int (B : Nat)), .val (.int (t : Nat)), .val (.int (n : Nat)), .val (.int (st : Nat)), .un, .un, .un, .un, .un, .un, .un, .un, .un]) (asg_noMeth rfl (hst ▸ stride_eq rfl)) ?_
  refine seqF_next (Γ' := [.val sc, .val dr, .val (.int (B : Nat)), .val (.int (t : Nat)), .val (.int (n : Nat)), .val (.int (st : Nat)), .val (LV [fS n 0, fS n 1, fS n 2, nS n 0, nS n 1, nS n 2]), .un, .un, .un, .un, .un, .un, .un, .un]) (asgC_noMeth rfl (comp_signs (compΓ_of (caps' := [none, some 4, some 5]) (by decide +kernel) (hst ▸ rfl)))) ?_
  refine seqF_next (Γ' := [.val sc, .val dr, .val (.int (B : Nat)), .val (.int (t : Nat)), .val (.int (n : Nat)), .val (.int (st : Nat)), .val (LV [fS n 0, fS n 1, fS n 2, nS n 0, nS n 1, nS n 2]), .val (LV [fS n 0, fS n 1, fS n 2]), .val (LV [nS n 0, nS n 1, nS n 2]), .un, .un, .un, .un, .un, .un]) ?_ ?_
  · have e1 : consF (slc (rd 6) (fun x => some none) (asI fun x => some (PV.int 3))) (consF (slc (rd 6) (asI fun x => some (PV.int 3)) fun x => some none) fun x => some []) [.val sc, .val dr, .val (.int (B : Nat)), .val (.int (t : Nat)), .val (.int (n : Nat)), .val (.int (st : Nat)), .val (LV [fS n 0, fS n 1, fS n 2, nS n 0, nS n 1, nS n 2]), .un, .un, .un, .un, .un, .un, .un, .un] = some [LV [fS n 0, fS n 1, fS n 2], LV [nS n 0, nS n 1, nS n 2]] := consF_eq rfl (consF_eq (slc3b rfl rfl rfl) rfl)
    show Option.bind (Option.bind (consF (slc (rd 6) (fun x => some none) (asI fun x => some (PV.int 3))) (consF (slc (rd 6) (asI fun x => some (PV.int 3)) fun x => some none) fun x => some []) _) _) _ = _
    rw [e1]; rfl
  have ls := fun Γ caps (hc : compΓ caps Γ = [.un, .val (.int (t : Nat))]) => comp_spots (t := t) hc
  have ll := fun Γ caps L hL hc => comp_listing (n := n) (B := B) (t := t) (Γ := Γ) (caps := caps) (L := L) hL hc
  generalize fS n 0 = f0 at *
  generalize fS n 1 = f1 at *
  generalize fS n 2 = f2 at *
  generalize nS n 0 = n0 at *
  generalize nS n 1 = n1 at *
  generalize nS n 2 = n2 at *
  generalize hsp : (spL t).map (fun s => PV.int (s : Nat)) = sp at *
  generalize hli : LV (((spL t).filter fun s => B.testBit s).map (pS n)) = li at *
  generalize hsg : LV [f0, f1, f2, n0, n1, n2] = sg at *
  refine seqF_next (Γ' := [.val sc, .val dr, .val (.int (B : Nat)), .val (.int (t : Nat)), .val (.int (n : Nat)), .val (.int (st : Nat)), .val sg, .val (LV [f0, f1, f2]), .val (LV [n0, n1, n2]), .val (.list sp), .un, .un, .un, .un, .un]) (asgC_noMeth rfl (ls _ _ (compΓ_of (caps' := [none, some 3]) (by decide +kernel) rfl))) ?_
  refine seqF_next (Γ' := [.val sc, .val dr, .val (.int (B : Nat)), .val (.int (t : Nat)), .val (.int (n : Nat)), .val (.int (st : Nat)), .val sg, .val (LV [f0, f1, f2]), .val (LV [n0, n1, n2]), .val (.list sp), .val li, .un, .un, .un, .un]) (asgC_noMeth rfl (ll _ _ _ rfl (compΓ_of (caps' := [none, some 2, some 7, some 8]) (by decide +kernel) rfl))) ?_
  refine seqF_next (Γ' := [.val sc, .val dr, .val (.int (B : Nat)), .val (.int (t : Nat)), .val (.int (n : Nat)), .val (.int (st : Nat)), .val sg, .val (LV [f0, f1, f2]), .val (LV [n0, n1, n2]), .val (.list sp), .val li, .val T1, .un, .un, .un]) (asg_noMeth rfl ?_) ?_
  · have e : consF (rd 7) (consF (rd 10) (consF (app2 divP (rd 4) fun x => some (PV.int 32)) fun x => some [])) [.val sc, .val dr, .val (.int (B : Nat)), .val (.int (t : Nat)), .val (.int (n : Nat)), .val (.int (st : Nat)), .val sg, .val (LV [f0, f1, f2]), .val (LV [n0, n1, n2]), .val (.list sp), .val li, .un, .un, .un, .un] = some [LV [f0, f1, f2], li, .int ((n / 32 : Nat) : Int)] := consF_eq rfl (consF_eq rfl (consF_eq (divv rfl (b := 32) rfl (by decide) (by decide)) rfl))
    exact (congrArg (fun z => Option.bind z tr_law_rows.1) e).trans r1
  refine seqF_next (Γ' := [.val sc, .val dr, .val (.int (B : Nat)), .val (.int (t : Nat)), .val (.int (n : Nat)), .val (.int (st : Nat)), .val sg, .val (LV [f0, f1, f2]), .val (LV [n0, n1, n2]), .val (.list sp), .val li, .val T1, .val T2, .un, .un]) (asg_noMeth rfl ?_) ?_
  · have e : consF (rd 8) (consF (rd 10) (consF (app2 divP (rd 4) fun x => some (PV.int 32)) fun x => some [])) [.val sc, .val dr, .val (.int (B : Nat)), .val (.int (t : Nat)), .val (.int (n : Nat)), .val (.int (st : Nat)), .val sg, .val (LV [f0, f1, f2]), .val (LV [n0, n1, n2]), .val (.list sp), .val li, .val T1, .un, .un, .un] = some [LV [n0, n1, n2], li, .int ((n / 32 : Nat) : Int)] := consF_eq rfl (consF_eq rfl (consF_eq (divv rfl (b := 32) rfl (by decide) (by decide)) rfl))
    exact (congrArg (fun z => Option.bind z tr_law_columns.1) e).trans r2
  refine seqF_next (Γ' := [.val sc, .val dr, .val (.int (B : Nat)), .val (.int (t : Nat)), .val (.int (n : Nat)), .val (.int (st : Nat)), .val sg, .val (LV [f0, f1, f2]), .val (LV [n0, n1, n2]), .val (.list sp), .val li, .val T1, .val T2, .val (.list [.int (acr B 0 : Nat), .int (acr B 1 : Nat), .int (acr B 2 : Nat)]), .un]) (asg_noMeth rfl (comp_across (compΓ_of (caps' := [none, some 2]) (by decide +kernel) rfl))) ?_
  refine seqF_next (Γ' := [.val sc, .val dr, .val (.int (B : Nat)), .val (.int (t : Nat)), .val (.int (n : Nat)), .val (.int (st : Nat)), .val sg, .val (LV [f0, f1, f2]), .val (LV [n0, n1, n2]), .val (.list sp), .val li, .val T1, .val T2, .val (.list [.int (acr B 0 : Nat), .int (acr B 1 : Nat), .int (acr B 2 : Nat)]), .val (.list [.int (dwn B 0 : Nat), .int (dwn B 1 : Nat), .int (dwn B 2 : Nat)])]) (asgC_noMeth rfl (comp_down (compΓ_of (caps' := [none, some 13]) (by decide +kernel) rfl) (by decide +kernel))) ?_
  generalize PV.list [.int (acr B 0 : Nat), .int (acr B 1 : Nat), .int (acr B 2 : Nat)] = ac at *
  generalize PV.list [.int (dwn B 0 : Nat), .int (dwn B 1 : Nat), .int (dwn B 2 : Nat)] = dw at *
  have q : ∀ (f : List PV → Option PV) (as : List PV) (F : SF (List PV)) (Γ : List Slot), F Γ = some as → f as = some (.bool true) → Option.map (fun x => !x) (((F Γ).bind f).bind truth) = some false := fun f as F Γ h1 h2 => by
    rw [h1]; show Option.map _ (Option.bind (f as) truth) = _; rw [h2]; rfl
  refine seqF_next (Γ' := [.val sc, .val dr, .val (.int (B : Nat)), .val (.int (t : Nat)), .val (.int (n : Nat)), .val (.int (st : Nat)), .val sg, .val (LV [f0, f1, f2]), .val (LV [n0, n1, n2]), .val (.list sp), .val li, .val T1, .val T2, .val ac, .val dw]) (iteF_false (orF_ff (q tr_law_right.1 _ _ _ (consF_eq rfl (consF_eq rfl (consF_eq rfl rfl))) r3) (q tr_law_right.1 _ _ _ (consF_eq rfl (consF_eq rfl (consF_eq rfl rfl))) r4)) rfl) ?_
  refine seqF_next (Γ' := [.val sc, .val dr, .val (.int (B : Nat)), .val (.int (t : Nat)), .val (.int (n : Nat)), .val (.int (st : Nat)), .val sg, .val (LV [f0, f1, f2]), .val (LV [n0, n1, n2]), .val (.list sp), .val li, .val T1, .val T2, .val ac, .val dw]) (iteF_false (orF_ff (q tr_law_back.1 _ _ _ (consF_eq rfl (consF_eq rfl (consF_eq rfl (consF_eq rfl rfl)))) r5) (q tr_law_back.1 _ _ _ (consF_eq rfl (consF_eq rfl (consF_eq rfl (consF_eq rfl rfl)))) r6)) rfl) ?_
  refine seqF_ret ?_
  show Option.map Out.ret (Option.bind (tr_law_kinds.1 [T1]) fun a => Option.bind (tr_law_kinds.1 [T2]) fun b => Option.bind (eqP a b) fun t => if t = true then Option.map PV.bool (Option.bind (spansP [ac]) fun e => eqP b e) else some (PV.bool false)) = _
  rw [r7, r8, r9]
  show Option.map Out.ret (Option.bind (some ((m : Int) == m)) fun t => if t = true then Option.map PV.bool (some ((m : Int) == m)) else some (PV.bool false)) = _
  rw [beq_self_eq_true]; rfl
end

section
noncomputable def mil (i : Int) : Nat := (i.fmod 1000000).toNat
theorem mil_eq (i : Int) : i.fmod 1000000 = (mil i : Nat) := by
  unfold mil
  have := Int.fmod_nonneg_of_pos i (b := 1000000) (by decide)
  omega
theorem comp_drawn {sc : PV} {Γ : List Slot} {caps : List (Option Nat)} {l : List Int} (h : sliceP sc none (some 3) = some (.list (l.map .int))) (hl : l.length ≤ 3) (h0 : rd 0 Γ = some sc) (hc : compΓ caps Γ = [.un]) :
    compF (bd1 0) caps (fun Γ => (slc (rd 0) (fun x => some none) (asI fun x => some (PV.int 3)) Γ).bind itemsP) (fun x => some true)
        (app2 modP (fun Γ => (consF (rd 0) (fun x => some []) Γ).bind intP) (app2 powP (fun x => some (PV.int 10)) fun x => some (PV.int 6))) Γ = some (.list (l.map fun i => .int (mil i : Nat))) := by
  refine compF_eq (xs := l.map .int) ?_ (by rw [List.length_map]; exact Nat.le_trans hl (by decide +kernel)) hc ?_
  · show Option.bind (Option.bind (rd 0 Γ) fun v => Option.bind (some none) fun l => Option.bind (some (some 3)) fun u => sliceP v l u) itemsP = _
    rw [h0]
    show Option.bind (sliceP sc none (some 3)) itemsP = _
    rw [h]; rfl
  · have := compP_map (j := 0) (base := [.un]) (T := fun _ => some true) (F := app2 modP (fun Γ => (consF (rd 0) (fun x => some []) Γ).bind intP) (app2 powP (fun x => some (PV.int 10)) fun x => some (PV.int 6))) rfl (fun i : Int => PV.int i) (fun _ => true) (fun i => .int (mil i : Nat)) l (fun i _ => by
      refine ⟨rfl, fun _ => ?_⟩
      have e : app2 powP (fun x => some (PV.int 10)) (fun x => some (PV.int 6)) [.val (.int i)] = some (.int 1000000) := (app2_eq (f := powP) (a := .int 10) (b := .int 6) rfl rfl).trans (by unfold powP; dsimp only; rw [if_pos (by decide +kernel)]; rfl)
      have e2 : (consF (rd 0) (fun x => some []) [.val (.int i)]).bind intP = some (.int i) := rfl
      refine (app2_eq e2 e).trans ?_
      show some (PV.int (i.fmod 1000000)) = _
      rw [mil_eq]) .un notM_un
    refine Eq.trans this ?_
    rw [List.filter_eq_self.mpr (fun _ _ => rfl)]
theorem slicePV_eq {xs out : List PV} {l u : Option Int} {a b n : Nat} (hn : xs.length = n) (h : sliceBounds l u none n = ((a : Int), (b : Int), 1)) (h2 : (sliceRange a b 1).filterMap (xs[·]?) = out) : slicePV xs l u = out := by
  unfold slicePV
  rw [hn, h]
  exact h2
theorem slc_eq {F : SF PV} {L U : SF (Option Int)} {Γ : List Slot} {xs out : List PV} {l u : Option Int} (h : F Γ = some (.list xs)) (hL : L Γ = some l) (hU : U Γ = some u) (hs : xs.length ≤ sizeLine) (ho : slicePV xs l u = out) : slc F L U Γ = some (.list out) := by
  unfold slc
  rw [h, hL, hU]
  show sliceP (.list xs) l u = _
  unfold sliceP
  dsimp only
  rw [if_pos hs, ho]
theorem drawn_fill {sc : PV} {l : List Int} (hl : l.length ≤ 3) : ∃ B t n : Nat, lawParts.2.1 [.val sc, .val (.list (l.map fun i => .int (mil i : Nat))), .un, .un, .un, .un, .un, .un, .un, .un, .un, .un, .un, .un, .un] =
    some (.next [.val sc, .val (.list (l.map fun i => .int (mil i : Nat))), .val (.int (B : Nat)), .val (.int (t : Nat)), .val (.int (n : Nat)), .un, .un, .un, .un, .un, .un, .un, .un, .un, .un]) := by
  unfold lawParts
  dsimp only
  match l, hl with
  | [], _ => exact ⟨477, 9, 0, (congrArg (Option.bind · _) (app2_eq (a := .list []) rfl (slc_eq (l := some 0) (u := none) (xs := [.int 477, .int 9, .int 0]) rfl rfl rfl (by decide +kernel) (slicePV_eq (a := 0) (b := 3) (n := 3) rfl (by decide +kernel) rfl)))).trans rfl⟩
  | [a], _ => exact ⟨mil a, 9, 0, (congrArg (Option.bind · _) (app2_eq (a := .list [.int (mil a : Nat)]) rfl (slc_eq (l := some 1) (u := none) (xs := [.int 477, .int 9, .int 0]) rfl rfl rfl (by decide +kernel) (slicePV_eq (a := 1) (b := 3) (n := 3) rfl (by decide +kernel) rfl)))).trans rfl⟩
  | [a, b], _ => exact ⟨mil a, mil b, 0, (congrArg (Option.bind · _) (app2_eq (a := .list [.int (mil a : Nat), .int (mil b : Nat)]) rfl (slc_eq (l := some 2) (u := none) (xs := [.int 477, .int 9, .int 0]) rfl rfl rfl (by decide +kernel) (slicePV_eq (a := 2) (b := 3) (n := 3) rfl (by decide +kernel) rfl)))).trans rfl⟩
  | [a, b, e], _ => exact ⟨mil a, mil b, mil e, (congrArg (Option.bind · _) (app2_eq (a := .list [.int (mil a : Nat), .int (mil b : Nat), .int (mil e : Nat)]) rfl (slc_eq (l := some 3) (u := none) (xs := [.int 477, .int 9, .int 0]) rfl rfl rfl (by decide +kernel) (slicePV_eq (a := 3) (b := 3) (n := 3) rfl (by decide +kernel) rfl)))).trans rfl⟩
  | _ :: _ :: _ :: _ :: _, h => exact absurd h (by simp only [List.length_cons]; omega)
theorem sliceP_eq {xs out : List PV} {l u : Option Int} (hs : xs.length ≤ sizeLine) (ho : slicePV xs l u = out) : sliceP (.list xs) l u = some (.list out) := by
  unfold sliceP
  dsimp only
  rw [if_pos hs, ho]
theorem taken (xs : List Int) (h : xs.length ≤ sizeLine) : ∃ l : List Int, l.length ≤ 3 ∧ sliceP (.list (xs.map .int)) none (some 3) = some (.list (l.map .int)) := by
  have h' : (xs.map PV.int).length ≤ sizeLine := by rw [List.length_map]; exact h
  match xs, h' with
  | [], h' => exact ⟨[], by decide, sliceP_eq h' (slicePV_eq (a := 0) (b := 0) (n := 0) rfl (by decide +kernel) rfl)⟩
  | [a], h' => exact ⟨[a], by simp, sliceP_eq h' (slicePV_eq (a := 0) (b := 1) (n := 1) rfl (by decide +kernel) rfl)⟩
  | [a, b], h' => exact ⟨[a, b], by simp, sliceP_eq h' (slicePV_eq (a := 0) (b := 2) (n := 2) rfl (by decide +kernel) rfl)⟩
  | a :: b :: e :: r, h' => exact ⟨[a, b, e], by simp, sliceP_eq h' (slice3 _)⟩
theorem law_true (xs : List Int) (h : xs.length ≤ sizeLine) : tr_law.1 [.list (xs.map .int)] = some (.bool true) := by
  obtain ⟨l, hl, ht⟩ := taken xs h
  generalize PV.list (xs.map .int) = sc at *
  obtain ⟨B, t, n, hB⟩ := drawn_fill (sc := sc) hl
  rw [lawParts.2.2.2]
  refine fnF_eq rfl (seqF_next (Γ' := [.val sc, .val (.list (l.map fun i => .int (mil i : Nat))), .un, .un, .un, .un, .un, .un, .un, .un, .un, .un, .un, .un, .un]) ?_ (seqF_next hB (law_tail _ _ _ _ _)))
  unfold lawParts
  dsimp only
  exact asgC_noMeth rfl (comp_drawn ht hl rfl (compΓ_of (caps' := [none]) (by decide +kernel) rfl))
end

section
open PySem.W.Fast in
noncomputable abbrev denT : Code → Sem PySem.Fin := tw11892475500146522536 tw14364793385576792824
theorem denT_eq : denT = denote treeTable := by
  show PySem.W.Fast.tw11892475500146522536 _ = _
  rw [← PySem.W.Fast.te11892475500146522536, ← PySem.W.Fast.te14364793385576792824]
noncomputable def impT (p : Program) (w : World) : Nat → SharedT → Thread → Option SharedT
  | 0, _, _ => none
  | n + 1, s, t => match t.atExitBegin with
    | some [] => some s
    | some (_ :: _) => none
    | none => match PySem.W.Fast.tw10156331382660048174 denT p w s t with
      | some (s', t') => impT p w n s' t'
      | none => none
noncomputable def runT (p : Program) (w : World) (n₀ : Nat) (ann : Option Value) : Nat → SharedT → Thread → Option SharedT
  | 0, _, _ => none
  | n + 1, s, t => match through t with
    | true => some s
    | false => match PySem.W.Fast.tw6613529449190102663 n₀ ann t with
      | false => none
      | true => match PySem.W.Fast.tw10156331382660048174 denT p w s t with
        | some (s', t') => runT p w n₀ ann n s' t'
        | none => none
set_option tactic.hygienic true in
theorem impT_of {p : Program} {w : World} : ∀ {n : Nat} {s s' : SharedT} {t : Thread}, impT p w n s t = some s' → importEnds treeTable p w n s.abs t = some s'.abs
  | 0, _, _, _, h => by cases h
  | n + 1, s, s', t, h => by
    unfold impT at h
    unfold importEnds
    cases ha : t.atExitBegin with
    | some l =>
      rw [ha] at h
      cases l with
      | nil => cases h; rfl
      | cons => cases h
    | none =>
      rw [ha] at h
      dsimp only at h
      split at h
      · rename_i s1 t1 hs
        rw [← PySem.W.Fast.te10156331382660048174, denT_eq] at hs
        rw [stepT_spec hs]
        exact impT_of h
      · cases h
set_option tactic.hygienic true in
theorem runT_of {p : Program} {w : World} {n₀ : Nat} {ann : Option Value} : ∀ {n : Nat} {s s' : SharedT} {t : Thread}, runT p w n₀ ann n s t = some s' → topRun treeTable p w n₀ ann n s.abs t = some s'.abs
  | 0, _, _, _, h => by cases h
  | n + 1, s, s', t, h => by
    unfold runT at h
    unfold topRun
    cases ha : through t with
    | true => rw [ha] at h; cases h; rfl
    | false =>
      rw [ha] at h
      dsimp only at h
      rw [← PySem.W.Fast.te6613529449190102663] at h
      cases hk : stepOk n₀ ann t with
      | false => rw [hk] at h; cases h
      | true =>
        rw [hk] at h
        dsimp only at h
        split at h
        · rename_i s1 t1 hs
          rw [← PySem.W.Fast.te10156331382660048174, denT_eq] at hs
          rw [stepT_spec hs]
          exact runT_of h
        · cases h
noncomputable def build : List Obj → BT → Nat → Option BT
  | [], t, _ => some t
  | o :: l, t, n => match ((t.ins n o).get n).isSome with
    | true => build l (t.ins n o) (n + 1)
    | false => none
theorem build_of {life : Life} : ∀ {l : List Obj} {t t' : BT} {n : Nat} {acc : List Obj}, build l t n = some t' → absHeap t n life = ⟨acc.toArray, life⟩ → absHeap t' (n + l.length) life = ⟨(acc ++ l).toArray, life⟩
  | [], t, t', n, acc, h, e => by
    cases h
    simpa using e
  | o :: l, t, t', n, acc, h, e => by
    unfold build at h
    cases hg : ((t.ins n o).get n).isSome with
    | false => rw [hg] at h; cases h
    | true =>
      rw [hg] at h
      have e2 : absHeap (t.ins n o) (n + 1) life = ⟨(acc ++ [o]).toArray, life⟩ := by
        rw [absHeap_ins hg, e]
        unfold Heap.push
        simp
      have := build_of (life := life) h e2
      rw [List.append_assoc] at this
      rw [List.length_cons, show n + (l.length + 1) = n + 1 + l.length by omega]
      exact this
noncomputable def ofS (s : Shared) : Option SharedT := (build s.heap.objs.toList .nil 0).map fun t => ⟨t, 0 + s.heap.objs.toList.length, s.heap.life, s.gens, s.drawn, s.toks, s.os⟩
theorem ofS_abs {s : Shared} {T : SharedT} (h : ofS s = some T) : T.abs = s := by
  obtain ⟨t, ht, rfl⟩ := Option.map_eq_some_iff.mp h
  have := build_of (life := s.heap.life) (acc := []) ht (by rfl)
  unfold SharedT.abs
  dsimp only
  rw [this]
  rfl
noncomputable def fencedT (p : Program) (w : World) (N : Nat) : Option Shared :=
  (ofS (PySem.start (opening p)).1).bind fun s0 => (impT (opening p) w N s0 (PySem.start (opening p)).2).bind fun s1 => PySem.W.Fast.tw14289696077712309145 p s1.abs
noncomputable def endsT (p : Program) (w : World) (N : Nat) : Option Shared := (fencedT p w N).bind fun s₀ => match s₀.heap.isNs mainGlobals && s₀.gens.size == 0 with
  | true => (ofS s₀).bind fun s1 => (runT p w s₀.heap.objs.size (s₀.heap.nsMap mainGlobals "__annotations__") N s1 (topStub p)).bind fun s2 =>
      match staticsOk (importedModules p.main.body) s₀.heap s2.abs.heap && namesBound p s2.abs.heap && gensDone s2.abs && laidKept s₀.heap s2.abs.heap with
      | true => some s2.abs
      | false => none
  | false => none
theorem endsT_of {p : Program} {w : World} {N : Nat} {s : Shared} (h : endsT p w N = some s) : openEnds treeTable p w N = some s := by
  unfold endsT at h
  obtain ⟨s₀, hf, h⟩ := Option.bind_eq_some_iff.mp h
  unfold fencedT at hf
  obtain ⟨a, ha, hf⟩ := Option.bind_eq_some_iff.mp hf
  obtain ⟨b, hb, hf⟩ := Option.bind_eq_some_iff.mp hf
  rw [← PySem.W.Fast.te14289696077712309145] at hf
  have e0 : fencedOpening treeTable p w N = some s₀ := by
    unfold fencedOpening
    rw [← ofS_abs ha, impT_of hb]
    exact hf
  unfold openEnds
  rw [e0]
  show topFrom treeTable p w N s₀ = _
  unfold topFrom
  cases hc : (s₀.heap.isNs mainGlobals && s₀.gens.size == 0) with
  | false => rw [hc] at h; cases h
  | true =>
    rw [hc] at h
    dsimp only at h ⊢
    obtain ⟨s1, h1, h⟩ := Option.bind_eq_some_iff.mp h
    obtain ⟨s2, h2, h⟩ := Option.bind_eq_some_iff.mp h
    have := runT_of h2
    rw [ofS_abs h1] at this
    rw [this]
    split at h
    · rename_i q
      cases h
      show (match _ with | true => some s2.abs | false => none) = _
      rw [q]
    · cases h
theorem left_of {p q : Program} {loose : List Str} {Xt : Shared → Bool} {α : Type} {Yf : Shared → α} {Ya : World → α} {N : Nat} {g0 : Bool}
    (h : ∀ w : World, (endsT p w N).map (fun s => (PySem.W.Fast.tw4187177175401517315 q loose (importedModules p.main.body) Xt g0 s, Yf s)) = some (openGood q loose, Ya w)) : LeftO p q loose Xt Yf Ya N g0 := fun w => by
  obtain ⟨s, hs, e⟩ := Option.map_eq_some_iff.mp (h w)
  rw [← PySem.W.Fast.te4187177175401517315] at e
  rw [endsT_of hs]
  exact congrArg some e
end

section
noncomputable def refOf : Value → Option Addr | .ref a => some a | _ => none
theorem refOf_eq {v a} : refOf v = some a → v = .ref a := by
  cases v with
  | ref y => exact fun h => congrArg Value.ref (Option.some.inj h)
  | _ => exact nsome
noncomputable def isRef (v : Option Value) (n : Nat) : Bool := v.any fun v => (refOf v).any fun a => a == n
theorem isRef_eq {v n} (h : isRef v n = true) : v = some (.ref n) := by
  obtain ⟨u, e', h'⟩ := (Option.any_eq_true _ _).mp h
  obtain ⟨a, e, h⟩ := (Option.any_eq_true _ _).mp h'
  rw [e', refOf_eq e, beq_iff_eq.mp h]
noncomputable def dictOf : Data → Option (Array DictEntry × Nat) | .dict es n => some (es, n) | _ => none
theorem dictOf_eq {d p} : dictOf d = some p → d = .dict p.1 p.2 := by
  cases d with
  | dict x y => exact fun h => congrArg (fun p => Data.dict p.1 p.2) (Option.some.inj h)
  | _ => exact nsome
noncomputable def fldOf : Data → Option (Array Value) | .fields vs => some vs | _ => none
theorem fldOf_eq {d p} : fldOf d = some p → d = .fields p := by
  cases d with
  | fields y => exact fun h => congrArg Data.fields (Option.some.inj h)
  | _ => exact nsome
noncomputable def seqOf : Data → Option (Array Value × Nat) | .seq vs n => some (vs, n) | _ => none
theorem seqOf_eq {d p} : seqOf d = some p → d = .seq p.1 p.2 := by
  cases d with
  | seq x y => exact fun h => congrArg (fun p => Data.seq p.1 p.2) (Option.some.inj h)
  | _ => exact nsome
noncomputable def funOf : Data → Option FuncData | .func fd => some fd | _ => none
theorem funOf_eq {d p} : funOf d = some p → d = .func p := by
  cases d with
  | func y => exact fun h => congrArg Data.func (Option.some.inj h)
  | _ => exact nsome
noncomputable def tyOf : Value → Option String | .type n => some n | _ => none
theorem tyOf_eq {v n} : tyOf v = some n → v = .type n := by
  cases v with
  | type y => exact fun h => congrArg Value.type (Option.some.inj h)
  | _ => exact nsome
noncomputable def isTy (v : Value) (n : String) : Bool := (tyOf v).any fun a => a == n
theorem isTy_eq {v n} (h : isTy v n = true) : v = .type n := by
  obtain ⟨a, e, h⟩ := (Option.any_eq_true _ _).mp h
  rw [tyOf_eq e, beq_iff_eq.mp h]
noncomputable def intOf : Value → Option (Int × Tok) | .int i t => some (i, t) | _ => none
theorem intOf_eq {v p} : intOf v = some p → v = .int p.1 p.2 := by
  cases v with
  | int x y => exact fun h => congrArg (fun p => Value.int p.1 p.2) (Option.some.inj h)
  | _ => exact nsome
noncomputable def strOf' : Value → Option (Str × Tok) | .str i t => some (i, t) | _ => none
theorem strOf'_eq {v p} : strOf' v = some p → v = .str p.1 p.2 := by
  cases v with
  | str x y => exact fun h => congrArg (fun p => Value.str p.1 p.2) (Option.some.inj h)
  | _ => exact nsome
noncomputable def boolOf : Value → Option Bool | .bool i => some i | _ => none
theorem boolOf_eq {v p} : boolOf v = some p → v = .bool p := by
  cases v with
  | bool y => exact fun h => congrArg Value.bool (Option.some.inj h)
  | _ => exact nsome
noncomputable def isNone' : Value → Bool | .none => true | _ => false
theorem isNone'_eq {v} : isNone' v = true → v = .none := by
  cases v with
  | none => exact fun _ => rfl
  | _ => exact Bool.noConfusion
noncomputable def intKeys (es : Array DictEntry) : Bool := es.toList.all fun e => (intOf e.key).any fun p => decide (e.hash = hashInt p.1) && p.1 != 47
noncomputable def strKeys (es : Array DictEntry) : Bool := es.toList.all fun e => (strOf' e.key).isSome
noncomputable abbrev askO (h : Heap) (a : Addr) (f : Obj → Bool) : Bool := (h.get? a).any f
noncomputable abbrev askD (o : Obj) (f : Array DictEntry → Bool) : Bool := (dictOf o.data).any fun p => f p.1
noncomputable abbrev askF (o : Obj) (f : Array Value → Bool) : Bool := (fldOf o.data).any f
open PySem.Builtin PySem.Builtin.Re in
noncomputable def chkH (h : Heap) : Bool :=
  (askO h mainGlobals fun o => askD o fun es => isRef (nsFind es "_special_chars_map") 74 && (isRef (nsFind es "_twin_re_1") 65 && (isRef (nsFind es "_deduplicate") 46 &&
    (nsFind es "_translate").any fun v => (refOf v).any fun f => askO h f fun o => (funOf o.data).any fun fd => isRef (some fd.code) 90))) &&
  ((askO h 74 fun o => isTy o.cls "dict" && (o.dict.isNone && (o.slots.size == 0 && askD o intKeys))) &&
  ((askO h 65 fun o => isTy o.cls "re.Pattern" && (o.dict.isNone && askF o fun fs => reRawNat (fs.getD 6 .none) == 0 && (reRawNat (fs.getD 2 .none) == 1 && isRef (some (fs.getD 5 .none)) 64))) &&
  ((askO h 64 fun o => (seqOf o.data).any fun p => decide (((p.1.map reRawOf).map (·.toNat)).toList = codeW.toList)) &&
  ((askO h 45 fun o => askF o fun vs => (vs[1]? : Option Value).any fun v => (strOf' v).any fun p => p.1 == recw_.name) &&
  ((askO h 39 fun o => askD o fun es => strKeys es && (nsFind es "unhashable_fallback").any fun v => (boolOf v).any fun b => !b) &&
  ((askO h 90 fun o => isTy o.cls "code" && askF o fun vs => isRef (vs[11]? : Option Value) 86 && ((strOf' (vs.getD 18 .none)).isSome && ((intOf (vs.getD 7 .none)).isSome && ((boolOf (vs.getD 9 .none)).isSome && (intOf (vs.getD 10 .none)).isSome)))) &&
  (askO h 86 fun o => isNone' o.cls && (o.dict.isNone && (o.slots.size == 0 && askF o fun vs => vs.size == 0)))))))))
noncomputable abbrev rL : RowW := PySem.Challenge.rw_in0256_01.row.toRowW
noncomputable abbrev qL : Program := view Pw (0 :: 18 :: 20 :: recIx)
noncomputable abbrev looseL : List Str := ["_deduplicate", "_twin_re_1", "_special_chars_map"]
noncomputable abbrev dedupD : Data := .func { Calls.docDef recw_.name recw_.params recw_.body recw_.scope (.str "cpy313.typing" 289) (.ref 45) .none with kwdefaults := .ref 39 }
noncomputable abbrev XtL : Shared → Bool := fun s => xlAt qL [] s && recOk rL.records s
noncomputable abbrev obsL : Shared → Bool × Option Data := fun s => (chkH s.heap, (s.heap.get? 46).map (·.data))
noncomputable abbrev valL : World → Bool × Option Data := fun _ => (true, some dedupD)
noncomputable abbrev asksL (w : World) : Prop := (endsT Pw w 5740).map (fun s => (PySem.W.Fast.tw4187177175401517315 qL looseL (importedModules Pw.main.body) XtL true s, obsL s)) = some (openGood qL looseL, valL w)
noncomputable def wr (b c : Bool) (w : World) : World := (w.withFollow "special-get-raises" c).withFollow "comprehension-iter-twice" b
end

section
theorem asks_ff (w : World) : asksL (wr false false w) := by unfold asksL; kernel_rfl
theorem asks_ft (w : World) : asksL (wr false true w) := by unfold asksL; kernel_rfl
theorem asks_tf (w : World) : asksL (wr true false w) := by unfold asksL; kernel_rfl
theorem asks_tt (w : World) : asksL (wr true true w) := by unfold asksL; kernel_rfl
theorem asks_all (w : World) : asksL w :=
  byRow2 "comprehension-iter-twice" (P := asksL) (fun w => byRow2 "special-get-raises" (P := fun w => asksL (w.withFollow "comprehension-iter-twice" false)) asks_ff asks_ft w)
    (fun w => byRow2 "special-get-raises" (P := fun w => asksL (w.withFollow "comprehension-iter-twice" true)) asks_tf asks_tt w) w
theorem left_ok : LeftO Pw qL looseL XtL obsL valL 5740 true := left_of asks_all
end

section
set_option maxHeartbeats 4000000
structure Facts (h : Heap) : Prop where
  g : ∃ o es n, h.get? mainGlobals = some o ∧ o.data = .dict es n ∧ nsFind es "_special_chars_map" = some (.ref 74) ∧ nsFind es "_twin_re_1" = some (.ref 65) ∧ nsFind es "_deduplicate" = some (.ref 46) ∧
    ∃ f of fd, nsFind es "_translate" = some (.ref f) ∧ h.get? f = some of ∧ of.data = .func fd ∧ fd.code = .ref 90
  o74 : ∃ o es n, h.get? 74 = some o ∧ o.ExactDict ∧ o.data = .dict es n ∧ intKeys es = true
  o65 : PatAt h 65
  o45 : ∃ o vs t, h.get? 45 = some o ∧ o.data = .fields vs ∧ vs[1]? = some (.str recw_.name t)
  o39 : ∃ o es n, h.get? 39 = some o ∧ o.data = .dict es n ∧ strKeys es = true ∧ nsFind es "unhashable_fallback" = some (.bool false)
  o46 : ∃ o, h.get? 46 = some o ∧ o.data = dedupD
  o90 : CodeHd h 90 86
  o86 : h.get? 86 = some (tabObj #[])
theorem any_ex {α : Type _} {o : Option α} {p : α → Bool} (h : o.any p = true) : ∃ a, o = some a ∧ p a = true := (Option.any_eq_true _ _).mp h
theorem and_l {a b : Bool} (h : (a && b) = true) : a = true := (Bool.and_eq_true_iff.mp h).1
theorem and_r {a b : Bool} (h : (a && b) = true) : b = true := (Bool.and_eq_true_iff.mp h).2
theorem askD_ex {o f} (h : askD o f = true) : ∃ es n, o.data = .dict es n ∧ f es = true := let ⟨p, a, b⟩ := any_ex h; ⟨p.1, p.2, dictOf_eq a, b⟩
theorem askF_ex {o f} (h : askF o f = true) : ∃ vs, o.data = .fields vs ∧ f vs = true := let ⟨p, a, b⟩ := any_ex h; ⟨p, fldOf_eq a, b⟩
theorem some_ex {α : Type _} {o : Option α} (h : o.isSome = true) : ∃ a, o = some a := Option.isSome_iff_exists.mp h
section
variable {h h' : Heap} (k : ∀ b o, h.get? b = some o → h'.get? b = some o)
include k
theorem fact_g (c : (askO h mainGlobals fun o => askD o fun es => isRef (nsFind es "_special_chars_map") 74 && (isRef (nsFind es "_twin_re_1") 65 && (isRef (nsFind es "_deduplicate") 46 &&
    (nsFind es "_translate").any fun v => (refOf v).any fun f => askO h f fun o => (funOf o.data).any fun fd => isRef (some fd.code) 90))) = true) : ∃ o es n, h'.get? mainGlobals = some o ∧ o.data = .dict es n ∧ nsFind es "_special_chars_map" = some (.ref 74) ∧ nsFind es "_twin_re_1" = some (.ref 65) ∧ nsFind es "_deduplicate" = some (.ref 46) ∧
    ∃ f of fd, nsFind es "_translate" = some (.ref f) ∧ h'.get? f = some of ∧ of.data = .func fd ∧ fd.code = .ref 90 := by
  obtain ⟨o, ho, c⟩ := any_ex c
  obtain ⟨es, n, hd, c⟩ := askD_ex c
  obtain ⟨v, hv, d⟩ := any_ex (and_r (and_r (and_r c)))
  obtain ⟨f, hf, d⟩ := any_ex d
  obtain ⟨of, hof, d⟩ := any_ex d
  obtain ⟨fd, hfd, d⟩ := any_ex d
  exact ⟨o, es, n, k _ _ ho, hd, isRef_eq (and_l c), isRef_eq (and_l (and_r c)), isRef_eq (and_l (and_r (and_r c))), f, of, fd, hv.trans (congrArg some (refOf_eq hf)), k _ _ hof, funOf_eq hfd, Option.some.inj (isRef_eq d)⟩
theorem fact_74 (c : (askO h 74 fun o => isTy o.cls "dict" && (o.dict.isNone && (o.slots.size == 0 && askD o intKeys))) = true) : ∃ o es n, h'.get? 74 = some o ∧ o.ExactDict ∧ o.data = .dict es n ∧ intKeys es = true := by
  obtain ⟨o, ho, c⟩ := any_ex c
  obtain ⟨es, n, hd, d⟩ := askD_ex (and_r (and_r (and_r c)))
  exact ⟨o, es, n, k _ _ ho, ⟨isTy_eq (and_l c), Option.isNone_iff_eq_none.mp (and_l (and_r c)), Array.eq_empty_of_size_eq_zero (beq_iff_eq.mp (and_l (and_r (and_r c))))⟩, hd, d⟩
open PySem.Builtin PySem.Builtin.Re in
theorem fact_65 (c : (askO h 65 fun o => isTy o.cls "re.Pattern" && (o.dict.isNone && askF o fun fs => reRawNat (fs.getD 6 .none) == 0 && (reRawNat (fs.getD 2 .none) == 1 && isRef (some (fs.getD 5 .none)) 64))) = true)
    (d : (askO h 64 fun o => (seqOf o.data).any fun p => decide (((p.1.map reRawOf).map (·.toNat)).toList = codeW.toList)) = true) : PatAt h' 65 := by
  obtain ⟨o, ho, c⟩ := any_ex c
  obtain ⟨fs, hf, e⟩ := askF_ex (and_r (and_r c))
  obtain ⟨ol, hol, d⟩ := any_ex d
  obtain ⟨p, hp, d⟩ := any_ex d
  exact ⟨o, fs, 64, ol, p.2, p.1, k _ _ ho, isTy_eq (and_l c), Option.isNone_iff_eq_none.mp (and_l (and_r c)), hf, beq_iff_eq.mp (and_l e), beq_iff_eq.mp (and_l (and_r e)), Option.some.inj (isRef_eq (and_r (and_r e))), k _ _ hol, seqOf_eq hp, Array.toList_inj.mp (of_decide_eq_true d)⟩
theorem fact_45 (c : (askO h 45 fun o => askF o fun vs => (vs[1]? : Option Value).any fun v => (strOf' v).any fun p => p.1 == recw_.name) = true) : ∃ o vs t, h'.get? 45 = some o ∧ o.data = .fields vs ∧ vs[1]? = some (.str recw_.name t) := by
  obtain ⟨o, ho, c⟩ := any_ex c
  obtain ⟨vs, hf, c⟩ := askF_ex c
  obtain ⟨v, hv, c⟩ := any_ex c
  obtain ⟨p, hp, c⟩ := any_ex c
  exact ⟨o, vs, p.2, k _ _ ho, hf, by rw [hv, strOf'_eq hp, eq_of_beq c]⟩
theorem fact_39 (c : (askO h 39 fun o => askD o fun es => strKeys es && (nsFind es "unhashable_fallback").any fun v => (boolOf v).any fun b => !b) = true) : ∃ o es n, h'.get? 39 = some o ∧ o.data = .dict es n ∧ strKeys es = true ∧ nsFind es "unhashable_fallback" = some (.bool false) := by
  obtain ⟨o, ho, c⟩ := any_ex c
  obtain ⟨es, n, hd, c⟩ := askD_ex c
  obtain ⟨v, hv, d⟩ := any_ex (and_r c)
  obtain ⟨b, hb, d⟩ := any_ex d
  exact ⟨o, es, n, k _ _ ho, hd, and_l c, by rw [hv, boolOf_eq hb, show b = false by cases b with | false => rfl | true => cases d]⟩
theorem fact_90 (c : (askO h 90 fun o => isTy o.cls "code" && askF o fun vs => isRef (vs[11]? : Option Value) 86 && ((strOf' (vs.getD 18 .none)).isSome && ((intOf (vs.getD 7 .none)).isSome && ((boolOf (vs.getD 9 .none)).isSome && (intOf (vs.getD 10 .none)).isSome)))) = true) : CodeHd h' 90 86 := by
  obtain ⟨o, ho, c⟩ := any_ex c
  obtain ⟨vs, hf, e⟩ := askF_ex (and_r c)
  obtain ⟨a, ha⟩ := some_ex (and_l (and_r e))
  obtain ⟨b, hb⟩ := some_ex (and_l (and_r (and_r e)))
  obtain ⟨d, hd⟩ := some_ex (and_l (and_r (and_r (and_r e))))
  obtain ⟨f, hf'⟩ := some_ex (and_r (and_r (and_r (and_r e))))
  have h11 := isRef_eq (and_l e)
  exact ⟨o, vs, a.1, a.2, b.1, b.2, d, f.1, f.2, k _ _ ho, isTy_eq (and_l c), hf, h11, by rw [Array.getD_eq_getD_getElem?, h11]; rfl, strOf'_eq ha, intOf_eq hb, boolOf_eq hd, intOf_eq hf', by decide⟩
theorem fact_86 (c : (askO h 86 fun o => isNone' o.cls && (o.dict.isNone && (o.slots.size == 0 && askF o fun vs => vs.size == 0))) = true) : h'.get? 86 = some (tabObj #[]) := by
  obtain ⟨o, ho, c⟩ := any_ex c
  obtain ⟨vs, hf, e⟩ := askF_ex (and_r (and_r (and_r c)))
  rw [k _ _ ho]
  obtain ⟨a, b, d, f⟩ := o
  have e1 : a = .none := isNone'_eq (and_l c)
  have e2 : b = none := Option.isNone_iff_eq_none.mp (and_l (and_r c))
  have e3 : f = #[] := Array.eq_empty_of_size_eq_zero (beq_iff_eq.mp (and_l (and_r (and_r c))))
  have e4 : vs = #[] := Array.eq_empty_of_size_eq_zero (beq_iff_eq.mp e)
  have e5 : d = .fields vs := hf
  rw [e1, e2, e3, e5, e4]
end
noncomputable def Told (h : Heap) : Prop := ∃ h₀ : Heap, (∀ b o, h₀.get? b = some o → h.get? b = some o) ∧ chkH h₀ = true ∧ (h₀.get? 46).map (·.data) = some dedupD
theorem told_of (h : Heap) (e : (chkH h, (h.get? 46).map (·.data)) = (true, some dedupD)) : Told h := ⟨h, fun _ _ e => e, (Prod.mk.inj e).1, (Prod.mk.inj e).2⟩
theorem Told.keeps {h h' : Heap} (x : Told h) (k : ∀ b o, h.get? b = some o → h'.get? b = some o) : Told h' := x.elim fun h₀ x => ⟨h₀, fun b o e => k b o (x.1 b o e), x.2⟩
theorem Told.facts {h : Heap} (x : Told h) : Facts h := by
  obtain ⟨h₀, k, c, d⟩ := x
  obtain ⟨o46, h46, d46⟩ := Option.map_eq_some_iff.mp d
  have c2 := and_r c
  have c3 := and_r c2
  have c4 := and_r c3
  have c5 := and_r c4
  have c6 := and_r c5
  have c7 := and_r c6
  exact ⟨fact_g k (and_l c), fact_74 k (and_l c2), fact_65 k (and_l c3) (and_l c4), fact_45 k (and_l c5), fact_39 k (and_l c6), ⟨o46, k _ _ h46, d46⟩, fact_90 k (and_l c7), fact_86 k (and_r c7)⟩
end

section
set_option maxHeartbeats 4000000
noncomputable def hbOf (h : Heap) : Heap := h.update 86 fun o => { o with data := .freed }
theorem hb_sub {h : Heap} {b : Addr} {o : Obj} (e : (hbOf h).get? b = some o) : b ≠ 86 ∧ h.get? b = some o := by
  by_cases q : b = 86
  · subst q
    obtain ⟨e1, e2⟩ := Heap.get?_some_iff.mp e
    exfalso
    unfold hbOf Heap.update at e1
    simp only [Array.getElem?_modify, if_true] at e1
    cases hh : h.objs[86]? with
    | none => rw [hh] at e1; cases e1
    | some o' =>
      rw [hh] at e1
      simp only [Option.map_some, Option.some.injEq] at e1
      subst e1
      simp [Obj.isFreed] at e2
  · exact ⟨q, (Heap.get?_update_other h _ (Ne.symm q)).symm.trans e⟩
theorem hb_of {h : Heap} {b : Addr} {o : Obj} (q : b ≠ 86) (e : h.get? b = some o) : (hbOf h).get? b = some o := (Heap.get?_update_other h _ (Ne.symm q)).trans e
theorem ns_hb {h : Heap} {a : Addr} {m : Str → Option Value} (hn : h.Ns a m) (h86 : h.get? 86 = some (tabObj #[])) : (hbOf h).Ns a m := by
  obtain ⟨o, es, ep, ho, hd, r⟩ := hn
  refine ⟨o, es, ep, hb_of (fun q => ?_) ho, hd, r⟩
  subst q
  rw [ho] at h86; cases h86; cases hd
theorem rec_hb {h : Heap} {cd : Value} {q : Str} (x : h.CodeRec cd q) (h86 : h.get? 86 = some (tabObj #[])) : (hbOf h).CodeRec cd q := by
  obtain ⟨cc, o, vs, t, e, g, hd, hv⟩ := x
  refine ⟨cc, o, vs, t, e, hb_of (fun q => ?_) g, hd, hv⟩
  subst q
  rw [g] at h86; cases h86
  cases hd
  simp at hv
theorem fun_hb {h : Heap} {a : Addr} {o : Obj} {fd : FuncData} (ho : h.get? a = some o) (hd : o.data = .func fd) (h86 : h.get? 86 = some (tabObj #[])) : (hbOf h).get? a = some o := hb_of (fun q => by
  subst q
  rw [ho] at h86; cases h86; cases hd) ho
noncomputable def ctxOf (w : World) (h : Heap) (mg mb : Str → Option Value) : Ctx0 := { w := w, hb := hbOf h, mg := mg, mb := mb }
section
variable {w : World} {h : Heap} {mg mb : Str → Option Value}
theorem mg_facts (X : Facts h) (G : h.Ns mainGlobals mg) : mg "_special_chars_map" = some (.ref 74) ∧ mg "_twin_re_1" = some (.ref 65) ∧ mg "_deduplicate" = some (.ref 46) ∧ ∃ f of fd, mg "_translate" = some (.ref f) ∧ h.get? f = some of ∧ of.data = .func fd ∧ fd.code = .ref 90 := by
  obtain ⟨o, es, n, a, b, c, d, e, f, of, fd, p, q⟩ := X.g
  obtain ⟨o', es', n', a', b', _, m⟩ := G
  rw [a] at a'
  cases a'
  rw [b] at b'
  cases b'
  exact ⟨(m _).symm.trans c, (m _).symm.trans d, (m _).symm.trans e, f, of, fd, (m _).symm.trans p, q⟩
theorem special_of (X : Facts h) (G : h.Ns mainGlobals mg) : Special (ctxOf w h mg mb) := by
  obtain ⟨o, es, n, ho, hx, hd, hk⟩ := X.o74
  have hk' : ∀ e ∈ es, ∃ i t, e.key = .int i t ∧ e.hash = hashInt i ∧ i ≠ 47 := fun e he => by
    obtain ⟨p, hp, c⟩ := any_ex (List.all_eq_true.mp hk e (by simpa using he))
    exact ⟨p.1, p.2, intOf_eq hp, of_decide_eq_true (and_l c), by simpa using and_r c⟩
  refine ⟨74, fun k => findBy (PySem.intKind Pw w).is es k, (mg_facts X G).1, by decide, ⟨o, es, n, hb_of (by decide) ho, hx, hd, ?_, fun _ => rfl⟩, ?_⟩
  · intro e he
    obtain ⟨i, t, hi, hh, _⟩ := hk' e he
    exact ⟨i, by rw [hi]; exact PySem.intKind_is _ _ _ _, hh⟩
  · show findBy _ es 47 = none
    unfold findBy
    rw [Option.map_eq_none_iff, Array.find?_eq_none]
    intro e he
    obtain ⟨i, t, hi, _, hn⟩ := hk' e he
    rw [hi]
    show ¬ Value.isInt 47 (.int i t) = true
    unfold Value.isInt
    simp [hn]
theorem pat_of (X : Facts h) (G : h.Ns mainGlobals mg) : Kp (ctxOf w h mg mb) := by
  obtain ⟨o, fs, l, ol, n, items, h1, h2, h3, h4, h5, h6, h7, h8, h9, r⟩ := X.o65.at_
  refine ⟨65, (mg_facts X G).2.1, ⟨o, fs, l, ol, n, items, hb_of (by decide) h1, h2, h3, h4, h5, h6, h7, hb_of (fun q => ?_) h8, h9, r⟩⟩
  subst q
  rw [X.o86] at h8
  cases h8
  cases h9
theorem code86_of (X : Facts h) (G : h.Ns mainGlobals mg) : CodeAt86 (ctxOf w h mg mb) "_translate" := by
  intro a o fd h1 h2 h3
  obtain ⟨_, _, _, f, of, fd', m, hf, hd, hc⟩ := mg_facts X G
  have h1' : mg "_translate" = some (.ref a) := h1
  rw [m] at h1'
  cases h1'
  have := (hb_sub h2).2
  rw [hf] at this
  cases this
  rw [hd] at h3
  cases h3
  obtain ⟨o', vs, file, tf, flags, tg, inF, text, tt, g, r⟩ := X.o90
  exact ⟨90, hc, o', vs, file, tf, flags, tg, inF, text, tt, hb_of (by decide) g, r⟩
theorem kt_of (h86 : h.get? 86 = some (tabObj #[])) (b : ∃ bm ob, BMod h mainGlobals mg bm ob) : Kt (ctxOf w h mg mb) := by
  obtain ⟨bm, ob, B⟩ := b
  refine ⟨bm, ob, ns_hb B.ns h86, B.name, B.ne, hb_of (fun q => ?_) B.obj, B.cls, B.dict, B.data⟩
  have := B.obj
  subst q
  rw [this] at h86; cases h86
  have := B.data
  cases this
end
theorem kd_of {w : World} {h : Heap} {mg mb : Str → Option Value} (X : Facts h) (G : h.Ns mainGlobals mg) : Kd (ctxOf w h mg mb) := by
  obtain ⟨o, ho, hd⟩ := X.o46
  obtain ⟨oc, vs, t, hc, hcd, hv⟩ := X.o45
  obtain ⟨ok, es, n, hk, hkd, hs, hf⟩ := X.o39
  refine ⟨46, o, _, .ref 45, .none, 39, fun name => nsFind es name, (mg_facts X G).2.2.1, hb_of (by decide) ho, hd, ⟨45, oc, vs, t, rfl, hb_of (by decide) hc, hcd, hv⟩, ⟨ok, es, n, hb_of (by decide) hk, hkd, ?_, fun _ => rfl⟩, hf⟩
  intro e he
  obtain ⟨p, hp⟩ := some_ex (List.all_eq_true.mp hs e (by simpa using he))
  exact ⟨p.1, p.2, strOf'_eq hp⟩
theorem codeFn_of {w : World} {h : Heap} {mg mb : Str → Option Value} {p : Program} {loose : List Str} {mean : ExcName → Option Value} (T : Top p loose mean mg mb h) (h86 : h.get? 86 = some (tabObj #[])) {x : Str} {dd : DefRec} (hd : dd ∈ recsOf p) (hx : dd.name = x) : CodeFn (ctxOf w h mg mb) x := by
  intro a o fd h1 h2 h3
  obtain ⟨a', o', pm, code, doc, g1, g2, g3, g4⟩ := T.fn dd hd
  rw [hx] at g1
  have h1' : mg x = some (.ref a) := h1
  rw [h1'] at g1
  cases g1
  have := (hb_sub h2).2
  rw [this] at g2
  cases g2
  rw [h3] at g3
  cases g3
  obtain ⟨cc, oc, vs, t, e, g, hdc, hv⟩ := rec_hb g4 h86
  exact ⟨cc, oc, vs, e, g, hdc⟩
noncomputable def bootNames : List Str := ["len", "isinstance", "issubclass", "type", "str", "bytes", "int", "list", "sorted", "sum", "object", "range", "enumerate", "zip", "dict", "ValueError", "TypeError", "AttributeError", "BytesWarning"]
noncomputable def freeOk (p : Program) (loose : List Str) (x : Str) : Bool :=
  !(startupNames.contains x) && !(loose.contains x) && !(((recsOf p).map (·.name)).contains x) && !(((litsOf p).map (·.1)).contains x) && !(((clssOf p loose).map (·.name)).contains x) && !(x == ("__name__" : Str))
theorem kc_of {w : World} {h : Heap} {mg mb : Str → Option Value} {p : Program} {loose : List Str} {mean : ExcName → Option Value} (T : Top p loose mean mg mb h) (h86 : h.get? 86 = some (tabObj #[])) (hr : recsOf p = recsOf Pw) (hf : bootNames.all (freeOk p loose) = true) : Kc (ctxOf w h mg mb) where
  g := ns_hb T.g h86
  b := ns_hb T.b h86
  nolimit := let ⟨mc, h1, h2⟩ := T.nolimit; ⟨mc, ns_hb h1 h86, h2⟩
  fn := fun dd hdd => by
    obtain ⟨a, o, pm, code, doc, h1, h2, h3, h4⟩ := T.fn dd (hr ▸ hdd)
    exact ⟨a, o, pm, code, doc, h1, fun_hb h2 h3 h86, h3, rec_hb h4 h86⟩
  boot := fun x hx => by
    have q := List.all_eq_true.mp hf x hx
    unfold freeOk at q
    simp only [Bool.and_eq_true, Bool.not_eq_true', List.contains_eq_mem, decide_eq_false_iff_not, beq_eq_false_iff_ne] at q
    obtain ⟨⟨⟨⟨⟨q1, q2⟩, q3⟩, q4⟩, q5⟩, q6⟩ := q
    exact ⟨T.free x q1 q2 q3 q4 q5, T.builtins x q6⟩
theorem gs_of {w : World} {s : Shared} {mg mb : Str → Option Value} (h86 : s.heap.get? 86 = some (tabObj #[])) : GS (ctxOf w s.heap mg mb) callerA (hbOf s.heap).get? s where
  hb := fun _ _ e => e
  sub := fun _ _ e => (hb_sub e).2
  fs := fun L hL => by cases hL
  t86 := by
    cases e : (hbOf s.heap).get? 86 with
    | none => rfl
    | some o => exact absurd rfl (hb_sub e).1
  tab := ⟨#[], h86, ⟨by unfold TriplesOk; first | trivial | decide, fun cv e => by cases e⟩⟩
  tk := Nat.zero_le _
theorem args_of {w : World} {G : PH w} : ∀ {vs : List Value} {xs : List Int}, IntsAre vs xs → HoldsL G (xs.map PV.int) vs
  | _, _, .nil => rfl
  | _, _, .cons n t h => ⟨_, _, rfl, ⟨t, rfl⟩, args_of h⟩
theorem rm_caller : Rm 12 callerA where
  handled := rfl
  frames := ⟨[], rfl, fun _ h => by cases h⟩
  depth := by decide +kernel
  units := by decide +kernel
theorem list_obj {P : Params} {s : Shared} {l : Addr} {vs : List Value} {d : List WData} (hL : s.heap.IsList l vs.toArray) (hw : Well P s.heap (.ref l) (.list d)) : s.heap.get? l = some (lobj vs 0) := by
  obtain ⟨o, ho, _, n, hd⟩ := hL
  cases hw with
  | list h1 h2 =>
    rw [ho] at h1
    cases h1
    simp only [Data.seq.injEq] at hd
    rw [ho, hd.1]
theorem law_run {w : World} {s : Shared} {mg mb : Str → Option Value} (Ka : KA (ctxOf w s.heap mg mb)) (Kd_ : Kd (ctxOf w s.heap mg mb)) (hc : CodeFn (ctxOf w s.heap mg mb) "_law_spans") (h86 : s.heap.get? 86 = some (tabObj #[]))
    {fa l : Addr} {vs : List Value} {n : Nat} {xs : List Int} (hm : mg "law" = some (.ref fa)) (hl : s.heap.get? l = some (lobj vs n)) (hv : IntsAre vs xs) (hx : xs.length ≤ 63) (E : Value → Shared → Prop) :
    wpAny (model Pw w) callerA (call (.ref fa) [.ref l]) (XP (w := w) callerA (hbOf s.heap).get? s (.bool true)) E s := by
  obtain ⟨V, g, _, f⟩ := (tr_law.2 _ Ka Kd_ (spans_ok _ Ka.toKc hc)).at_
  have e : V = .ref fa := by
    rcases g with g | ⟨g, _⟩
    · have g' : mg "law" = some V := g
      rw [hm] at g'; cases g'; rfl
    · have g' : mg "law" = none := g
      rw [hm] at g'; cases g'
  subst e
  have ne : l ≠ 86 := fun q => by
    subst q
    rw [hl] at h86; cases h86
  refine (f.run _ _ (law_true xs (Nat.le_trans hx (by decide +kernel)))).run callerA _ s [.ref l] E rm_caller (gs_of h86) (Heap.lt_size h86) ?_
  exact ⟨_, _, rfl, ⟨l, vs, n, rfl, hb_of ne hl, args_of hv⟩, rfl⟩
theorem end_ok {w : World} {s s' : Shared} {V : Value} (h86 : s.heap.get? 86 = some (tabObj #[])) (ht : isCodeTable s.heap 86) (hg : s.gens = #[]) (h : XP (w := w) callerA (hbOf s.heap).get? s (.bool true) V s') :
    V = .bool true ∧ OldK s.heap s'.heap ∧ s'.os = s.os ∧ AllBare s'.gens := by
  obtain ⟨G', hv, x⟩ := h
  obtain ⟨ps, h1, _⟩ := x.tab
  refine ⟨hv, ⟨fun b o e => ?_, fun b o e => ?_⟩, x.os, x.gens (by rw [hg]; exact AllBare.of_eq rfl)⟩
  · by_cases q : b = 86
    · subst q
      rw [h86] at e; cases e
      refine .inr (.inl ⟨ht, rfl, #[], ps, rfl, ?_⟩)
      rw [h1]
      simp [tabObj]
    · exact .inl (x.keep b o ⟨o, e⟩ e q (fun z => by cases z))
  · by_cases q : b = 86
    · subst q; exact ⟨_, h1⟩
    · exact ⟨o, x.keep b o ⟨o, e⟩ e q (fun z => by cases z)⟩
end
section
theorem recs_view : recsOf qL = recsOf Pw := by kernel_rfl
theorem boot_ok : bootNames.all (freeOk qL (looseW qL looseL)) = true := by decide +kernel
theorem looks_ok : looksOpen PySem.Challenge.rw_in0256_01.row.prog = true := by
  unfold looksOpen
  repeat' with_reducible refine look_both ?_ ?_
  all_goals decide +kernel
theorem part_ok : PySem.Challenge.rw_in0256_01.row.partSaid = true := by
  unfold OpenRow.partSaid
  repeat' with_reducible refine look_both ?_ ?_
  · exact looks_ok
  all_goals decide +kernel
theorem row_ok : PySem.Challenge.rw_in0256_01.row.wellSaid = true := by
  unfold OpenRow.wellSaid
  repeat' with_reducible refine look_both ?_ ?_
  · exact part_ok
  all_goals decide +kernel
theorem law_ok : PySem.Challenge.rw_in0256_01.wellSaid = true := by
  unfold OpenLaw.wellSaid
  repeat' with_reducible refine look_both ?_ ?_
  · exact row_ok
  all_goals decide +kernel
end
end Mine
open Mine
set_option tactic.hygienic true in
set_option maxHeartbeats 8000000 in
theorem PySem.Challenge.cw_in0256_01_holds : PySem.Challenge.rw_in0256_01.Holds := by
  w_on
  refine holds_law law_ok fun said => ?_
  refine holds_open (q := qL) (loose := looseL) (Xt := XtL) (XP := XL qL []) (Yf := obsL) (Ya := valL) (YP := fun _ h => Told h) (N := 5740) left_ok (fun _ s e => told_of s.heap e) (fun _ _ _ x k => x.keeps k) (fun s e => xl_of s (Bool.and_eq_true_iff.mp e).1) XL.keeps (by rfl) (by rfl) (by rfl) (fun s e => recFacts_of (Bool.and_eq_true_iff.mp e).2) (by rfl) (by first | assumption | decide +kernel) (by decide +kernel) ⟨rfl, rfl, rfl, rfl, rfl, by decide +kernel⟩ ?hw ?hc
  case hw => w_witness2
  case hc =>
  intro w s₀ s₁ mg mb G Y fa o pm cd doc dV kV ho hdd hcd hD hmg hg args vals as hpre hlay hrd hwl hlo
  refine Ground.open G ?_
  intro T B D TE TW
  clear D
  replace Y := Told.facts Y
  have h86 : s₁.heap.get? 86 = some (tabObj #[]) := Y.o86
  have Kc_ : Kc (ctxOf w s₁.heap mg mb) := kc_of T h86 recs_view boot_ok
  have Ka : KA (ctxOf w s₁.heap mg mb) := { toKc := Kc_, sp := special_of Y T.g, kt := kt_of h86 (bmod_of_top T), kp := pat_of Y T.g, code86 := code86_of Y T.g }
  have Kd_ : Kd (ctxOf w s₁.heap mg mb) := kd_of Y T.g
  have hc : CodeFn (ctxOf w s₁.heap mg mb) "_law_spans" := codeFn_of T h86 (dd := recK 42) (by rw [recs_view]; exact recK_mem (by decide)) (by rfl)
  have ht : isCodeTable s₁.heap 86 := by
    obtain ⟨o', vs, file, tf, flags, tg, inF, text, tt, g, c1, c2, c3, r⟩ := Y.o90
    exact ⟨90, o', vs, g, c1, c2, c3⟩
  clear hdd hcd hD Y TE TW B
  wrow_args hpre hlay hrd hwl hlo
  rename_i xs hs hl0 hL1 hr1 hl2 w4 w3 l vs w0 hL ra w1 r0 hI hr hc1 hc2
  have hx : xs.length ≤ 63 := by omega
  have w1' : Well w.params s₁.heap (.ref l) (.list (ofPys (xs.map PyData.int))) := w1
  show wpAny (model Pw w) callerA (call (.ref fa) [.ref l]) _ _ s₁
  refine wm (law_run Ka Kd_ hc h86 hmg (list_obj hL w1') hI hx _) (fun v s' h => ?_)
  obtain ⟨rfl, k1, k2, k3⟩ := end_ok h86 ht hg h
  refine ⟨.inl ⟨.bool true, .bool true, [], rfl, raisesW_false ?_, .bool true, ?_, fun _ => ⟨List.nodup_nil, fun a ha => nomatch ha⟩⟩, k1, k2, k3⟩
  · wrow_none_raised
  · wrow_post
