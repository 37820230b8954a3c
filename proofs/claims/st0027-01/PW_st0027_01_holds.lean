import PyProof.Rows.All
import Wide.All
import OpenK.AllK
import Wide.FinOn
import PyProof.Rows.DictCompDC
import KE.KDictLaws
import PySem.Challenge.RW_st0027_01
set_option Elab.async false
set_option compiler.extract_closed false
set_option linter.unusedVariables false
set_option linter.unusedSimpArgs false
set_option maxRecDepth 100000
set_option maxHeartbeats 8000000
local macro_rules | `(tactic| omega) => `(tactic| lia)
section
open PySem PySem.W PySem.Calls PyProof.Rows
namespace Mine
theorem le_lit {x a b : Nat} (h : x ≤ a) (e : Nat.ble a b = true) : x ≤ b := Nat.le_trans h (Nat.le_of_ble_eq_true e)
theorem room0 {d a k N : Nat} (h : d + a < N) (e : Nat.ble k a = true) : d + k < N := Nat.lt_of_le_of_lt (Nat.add_le_add_left (Nat.le_of_ble_eq_true e) d) h
theorem room00 {d a N : Nat} (h : d + a < N) : d < N := Nat.lt_of_le_of_lt (Nat.le_add_right d a) h
theorem room1 {d a j k N : Nat} (h : d + a < N) (e : Nat.ble (j + k) a = true) : d + j + k < N := by
  rw [Nat.add_assoc]; exact room0 h e
theorem lt_ne {a b : Nat} (h : a < b) : a ≠ b := Nat.ne_of_lt h
theorem gt_ne {a b : Nat} (h : b < a) : a ≠ b := Nat.ne_of_gt h
theorem lt_z {a b : Nat} (h : a < b) : 0 < b := Nat.lt_of_le_of_lt (Nat.zero_le a) h
/-- G, from the bound of each entry -/
noncomputable def LtTo (D : Nat) : List (Addr × Obj) → Prop → Prop
  | [], G => G
  | p :: r, G => @LT.lt Nat _ p.1 D → LtTo D r G
theorem ltTo {D : Nat} {G : Prop} : ∀ {L : List (Addr × Obj)}, (∀ p ∈ L, p.1 < D) → LtTo D L G → G
  | [], _, k => k
  | _ :: _, h, k => ltTo (fun q hq => h q (.tail _ hq)) (k (h _ (.head _)))
theorem ltD {a b : Nat} (h : a < b) : a < b := h
theorem neD {a b : Nat} (h : a ≠ b) : a ≠ b := h
/-- an equation that no tactic turns by itself -/
structure Same {α : Sort _} (a b : α) : Prop where
  out : a = b
theorem genEq {α : Sort _} {a : α} {P : α → Prop} (k : ∀ b, Same a b → P b) : ∀ b, a = b → P b := fun b h => k b ⟨h⟩
/-- the second follows from the first -/
noncomputable def Hid {α : Type} (Q Q' : α → Shared → Prop) : Prop := ∀ v s, Q v s → Q' v s
theorem unh {α : Type} {Q Q' : α → Shared → Prop} {v : α} {s : Shared} (h : Hid Q Q') (k : Q v s) : Q' v s := h v s k
theorem hideW {α : Type} {M : Model} {A : Around} {t : Sem α} {Q : α → Shared → Prop} {E : Value → Shared → Prop} {s : Shared} (k : ∀ Q' E', Hid Q Q' → Hid E E' → wpAny M A t Q' E' s) : wpAny M A t Q E s := k Q E (fun _ _ h => h) (fun _ _ h => h)
theorem hideC {M : Model} {A : Around} {c : Code} {R : Result → Shared → Prop} {s : Shared} (k : ∀ R', Hid R R' → codeAny M A c R' s) : codeAny M A c R s := k R (fun _ _ h => h)
theorem ca2 {p1 p2 q : Prop} (h : p1 ∧ p2 ∧ q) : p2 := h.2.1
theorem ca3 {p1 p2 p3 q : Prop} (h : p1 ∧ p2 ∧ p3 ∧ q) : p3 := h.2.2.1
theorem ca4 {p1 p2 p3 p4 q : Prop} (h : p1 ∧ p2 ∧ p3 ∧ p4 ∧ q) : p4 := h.2.2.2.1
theorem ca5 {p1 p2 p3 p4 p5 q : Prop} (h : p1 ∧ p2 ∧ p3 ∧ p4 ∧ p5 ∧ q) : p5 := h.2.2.2.2.1
theorem ca6 {p1 p2 p3 p4 p5 p6 q : Prop} (h : p1 ∧ p2 ∧ p3 ∧ p4 ∧ p5 ∧ p6 ∧ q) : p6 := h.2.2.2.2.2.1
theorem ca7 {p1 p2 p3 p4 p5 p6 p7 q : Prop} (h : p1 ∧ p2 ∧ p3 ∧ p4 ∧ p5 ∧ p6 ∧ p7 ∧ q) : p7 := h.2.2.2.2.2.2.1
theorem ca8 {p1 p2 p3 p4 p5 p6 p7 p8 q : Prop} (h : p1 ∧ p2 ∧ p3 ∧ p4 ∧ p5 ∧ p6 ∧ p7 ∧ p8 ∧ q) : p8 := h.2.2.2.2.2.2.2.1
theorem ca9 {p1 p2 p3 p4 p5 p6 p7 p8 p9 q : Prop} (h : p1 ∧ p2 ∧ p3 ∧ p4 ∧ p5 ∧ p6 ∧ p7 ∧ p8 ∧ p9 ∧ q) : p9 := h.2.2.2.2.2.2.2.2.1
theorem ca10 {p1 p2 p3 p4 p5 p6 p7 p8 p9 p10 q : Prop} (h : p1 ∧ p2 ∧ p3 ∧ p4 ∧ p5 ∧ p6 ∧ p7 ∧ p8 ∧ p9 ∧ p10 ∧ q) : p10 := h.2.2.2.2.2.2.2.2.2.1
theorem ca11 {p1 p2 p3 p4 p5 p6 p7 p8 p9 p10 p11 q : Prop} (h : p1 ∧ p2 ∧ p3 ∧ p4 ∧ p5 ∧ p6 ∧ p7 ∧ p8 ∧ p9 ∧ p10 ∧ p11 ∧ q) : p11 := h.2.2.2.2.2.2.2.2.2.2.1
theorem ca12 {p1 p2 p3 p4 p5 p6 p7 p8 p9 p10 p11 p12 q : Prop} (h : p1 ∧ p2 ∧ p3 ∧ p4 ∧ p5 ∧ p6 ∧ p7 ∧ p8 ∧ p9 ∧ p10 ∧ p11 ∧ p12 ∧ q) : p12 := h.2.2.2.2.2.2.2.2.2.2.2.1
theorem ca13 {p1 p2 p3 p4 p5 p6 p7 p8 p9 p10 p11 p12 p13 q : Prop} (h : p1 ∧ p2 ∧ p3 ∧ p4 ∧ p5 ∧ p6 ∧ p7 ∧ p8 ∧ p9 ∧ p10 ∧ p11 ∧ p12 ∧ p13 ∧ q) : p13 := h.2.2.2.2.2.2.2.2.2.2.2.2.1
theorem cz3 {p1 p2 p3 : Prop} (h : p1 ∧ p2 ∧ p3) : p3 := h.2.2
theorem cz4 {p1 p2 p3 p4 : Prop} (h : p1 ∧ p2 ∧ p3 ∧ p4) : p4 := h.2.2.2
theorem cz5 {p1 p2 p3 p4 p5 : Prop} (h : p1 ∧ p2 ∧ p3 ∧ p4 ∧ p5) : p5 := h.2.2.2.2
theorem cz6 {p1 p2 p3 p4 p5 p6 : Prop} (h : p1 ∧ p2 ∧ p3 ∧ p4 ∧ p5 ∧ p6) : p6 := h.2.2.2.2.2
theorem cz7 {p1 p2 p3 p4 p5 p6 p7 : Prop} (h : p1 ∧ p2 ∧ p3 ∧ p4 ∧ p5 ∧ p6 ∧ p7) : p7 := h.2.2.2.2.2.2
theorem cz8 {p1 p2 p3 p4 p5 p6 p7 p8 : Prop} (h : p1 ∧ p2 ∧ p3 ∧ p4 ∧ p5 ∧ p6 ∧ p7 ∧ p8) : p8 := h.2.2.2.2.2.2.2
theorem cz9 {p1 p2 p3 p4 p5 p6 p7 p8 p9 : Prop} (h : p1 ∧ p2 ∧ p3 ∧ p4 ∧ p5 ∧ p6 ∧ p7 ∧ p8 ∧ p9) : p9 := h.2.2.2.2.2.2.2.2
theorem cz10 {p1 p2 p3 p4 p5 p6 p7 p8 p9 p10 : Prop} (h : p1 ∧ p2 ∧ p3 ∧ p4 ∧ p5 ∧ p6 ∧ p7 ∧ p8 ∧ p9 ∧ p10) : p10 := h.2.2.2.2.2.2.2.2.2
theorem cz11 {p1 p2 p3 p4 p5 p6 p7 p8 p9 p10 p11 : Prop} (h : p1 ∧ p2 ∧ p3 ∧ p4 ∧ p5 ∧ p6 ∧ p7 ∧ p8 ∧ p9 ∧ p10 ∧ p11) : p11 := h.2.2.2.2.2.2.2.2.2.2
theorem cz12 {p1 p2 p3 p4 p5 p6 p7 p8 p9 p10 p11 p12 : Prop} (h : p1 ∧ p2 ∧ p3 ∧ p4 ∧ p5 ∧ p6 ∧ p7 ∧ p8 ∧ p9 ∧ p10 ∧ p11 ∧ p12) : p12 := h.2.2.2.2.2.2.2.2.2.2.2
theorem cz13 {p1 p2 p3 p4 p5 p6 p7 p8 p9 p10 p11 p12 p13 : Prop} (h : p1 ∧ p2 ∧ p3 ∧ p4 ∧ p5 ∧ p6 ∧ p7 ∧ p8 ∧ p9 ∧ p10 ∧ p11 ∧ p12 ∧ p13) : p13 := h.2.2.2.2.2.2.2.2.2.2.2.2
theorem cz14 {p1 p2 p3 p4 p5 p6 p7 p8 p9 p10 p11 p12 p13 p14 : Prop} (h : p1 ∧ p2 ∧ p3 ∧ p4 ∧ p5 ∧ p6 ∧ p7 ∧ p8 ∧ p9 ∧ p10 ∧ p11 ∧ p12 ∧ p13 ∧ p14) : p14 := h.2.2.2.2.2.2.2.2.2.2.2.2.2
end Mine
end
section
open PySem PySem.W PySem.Calls PyProof.Rows
namespace Mine
/-- an invariant under a name of its own -/
theorem sameI {α : Sort _} (a : α) {P : Prop} (k : ∀ i, Same i a → P) : P := k a ⟨rfl⟩
theorem Same.to2 {α β : Type} {I J : α → β → Prop} (h : Same I J) {x : α} {y : β} (k : I x y) : J x y := by rw [← h.out]; exact k
theorem Same.of2 {α β : Type} {I J : α → β → Prop} (h : Same I J) {x : α} {y : β} (k : J x y) : I x y := by rw [h.out]; exact k
end Mine
end
section
open PySem PySem.W PyProof.Rows
namespace Mine
/-- one sign spelled out -/
noncomputable def one (c : Nat) (z : List Nat) (k : Nat) : List Nat := if k = c then z else [k]
/-- a text, each sign turned into a word -/
noncomputable def fm (f : Nat → List Nat) (x : Str) : Str := ⟨(x.cps.toList.flatMap f).toArray⟩
theorem fm_toList (f : Nat → List Nat) (x : Str) : (fm f x).cps.toList = x.cps.toList.flatMap f := by simp [fm]
theorem one_free (c : Nat) (z : List Nat) : ∀ l : List Nat, c ∉ l → l.flatMap (one c z) = l
  | [], _ => rfl
  | k :: r, h => by
    have h1 : ¬ k = c := fun e => h (e ▸ List.mem_cons_self ..)
    have h2 : c ∉ r := fun m => h (List.mem_cons_of_mem _ m)
    rw [List.flatMap_cons, one_free c z r h2, one, if_neg h1]; rfl
theorem one_join (c : Nat) (z : Str) : ∀ parts : List Str, (∀ p ∈ parts, c ∉ p.cps.toList) → (Str.join ⟨#[c]⟩ parts).cps.toList.flatMap (one c z.cps.toList) = (Str.join z parts).cps.toList
  | [], _ => rfl
  | [p], h => one_free c _ _ (h p (List.mem_singleton.mpr rfl))
  | p :: q :: r, h => by
    have ih := one_join c z (q :: r) fun a ha => h a (List.mem_cons_of_mem _ ha)
    show (p ++ ⟨#[c]⟩ ++ Str.join ⟨#[c]⟩ (q :: r)).cps.toList.flatMap _ = (p ++ z ++ Str.join z (q :: r)).cps.toList
    simp only [Str.cps_append, Array.toList_append, List.flatMap_append]
    rw [ih, one_free c _ _ (h p (List.mem_cons_self ..))]
    simp [one]
theorem rep_one (x z : Str) (c : Nat) : Txt.replace x ⟨#[c]⟩ z = fm (one c z.cps.toList) x := by
  have h : (Txt.replace x ⟨#[c]⟩ z).cps.toList = (fm (one c z.cps.toList) x).cps.toList := by
    rw [StrLaws.replace_one, ← one_join c z _ (StrLaws.split_free x c), StrLaws.join_split, fm_toList]
  revert h
  generalize Txt.replace x ⟨#[c]⟩ z = u; generalize fm (one c z.cps.toList) x = v
  obtain ⟨⟨u⟩⟩ := u; obtain ⟨⟨v⟩⟩ := v
  intro h; simpa using h
theorem fm_fm (f g : Nat → List Nat) (x : Str) : fm g (fm f x) = fm (fun a => (f a).flatMap g) x := by
  unfold fm; simp [List.flatMap_assoc]
theorem fm_congr {f g : Nat → List Nat} (x : Str) (h : ∀ a, f a = g a) : fm f x = fm g x := by rw [funext h]
theorem fm_length {f : Nat → List Nat} (b : Nat) (h : ∀ a, (f a).length ≤ b) (x : Str) : (fm f x).length ≤ b * x.length := by
  show (x.cps.toList.flatMap f).toArray.size ≤ b * x.cps.size
  rw [List.size_toArray, ← Array.length_toList]
  generalize x.cps.toList = l
  induction l with
  | nil => simp
  | cons k r ih => rw [List.flatMap_cons, List.length_append, List.length_cons, Nat.mul_succ]; have := h k; omega
theorem fm_id (x : Str) : fm (fun a => [a]) x = x := by
  obtain ⟨⟨x⟩⟩ := x; simp [fm, List.flatMap_singleton']
theorem rep_none (x z : Str) (c : Nat) (h : (Builtin.Str.occurrences x ⟨#[c]⟩ 0 x.length 1).isEmpty = true) : fm (one c z.cps.toList) x = x := by
  have h2 := StrLaws.found_one x c
  rw [h] at h2
  have h3 : c ∉ x.cps.toList := by simpa using h2.symm
  unfold fm
  rw [one_free c _ _ h3]
/-- the five tables: what each escape spells and how -/
noncomputable def tabs : List (List (Nat × List Nat)) := [
  [(38, [38, 97, 109, 112, 59]), (60, [38, 108, 116, 59]), (62, [38, 103, 116, 59])],
  [(38, [38, 97, 109, 112, 59]), (60, [38, 108, 116, 59]), (62, [38, 103, 116, 59]), (34, [38, 113, 117, 111, 116, 59]), (13, [38, 35, 49, 51, 59]), (10, [38, 35, 49, 48, 59]), (9, [38, 35, 48, 57, 59])],
  [(38, [38, 97, 109, 112, 59]), (62, [38, 103, 116, 59]), (34, [38, 113, 117, 111, 116, 59])],
  [(38, [38, 97, 109, 112, 59]), (60, [38, 108, 116, 59]), (62, [38, 103, 116, 59]), (13, [38, 35, 120, 68, 59])],
  [(38, [38, 97, 109, 112, 59]), (60, [38, 108, 116, 59]), (34, [38, 113, 117, 111, 116, 59]), (13, [38, 35, 120, 68, 59]), (10, [38, 35, 120, 65, 59]), (9, [38, 35, 120, 57, 59])]]
noncomputable def spell (h : Nat) (a : Nat) : List Nat := ((tabs.getD h []).lookup a).getD [a]
theorem spell_other (k a : Nat) (h1 : a ≠ 38) (h2 : a ≠ 60) (h3 : a ≠ 62) (h4 : a ≠ 34) (h5 : a ≠ 13) (h6 : a ≠ 10) (h7 : a ≠ 9) : spell k a = [a] := by
  have e1 := beq_false_of_ne h1; have e2 := beq_false_of_ne h2; have e3 := beq_false_of_ne h3; have e4 := beq_false_of_ne h4
  have e5 := beq_false_of_ne h5; have e6 := beq_false_of_ne h6; have e7 := beq_false_of_ne h7
  unfold spell tabs
  rcases k with _ | _ | _ | _ | _ | k <;> simp [List.lookup, e1, e2, e3, e4, e5, e6, e7]
theorem lookup_strs {β : Type} (enc : β → PyData) (x : Str) : ∀ T : List (List Nat × β), Spec.lookup (.str x) (T.map fun e => (PyData.str ⟨e.1.toArray⟩, enc e.2)) = (T.lookup x.cps.toList).map enc
  | [] => rfl
  | (k, b) :: r => by
    rw [List.map_cons, Spec.lookup, List.lookup_cons, lookup_strs enc x r]
    show (if ((⟨k.toArray⟩ : Str) == x) = true then _ else _) = _
    by_cases h : k = x.cps.toList
    · subst h
      simp
    · have h1 : ((⟨k.toArray⟩ : Str) == x) = false := by
        apply beq_false_of_ne; rintro rfl; exact h rfl
      have h2 : (x.cps.toList == k) = false := beq_false_of_ne fun e => h e.symm
      rw [h1, h2]; rfl
noncomputable def tokens : List (List Nat × Int) := [([33], 54), ([33, 61], 28), ([37], 24), ([37, 61], 40), ([38], 19), ([38, 61], 41), ([40], 7), ([41], 8), ([42], 16), ([42, 42], 35), ([42, 42, 61], 46), ([42, 61], 38), ([43], 14), ([43, 61], 36), ([44], 12), ([45], 15), ([45, 61], 37), ([45, 62], 51), ([46], 23), ([46, 46, 46], 52), ([47], 17), ([47, 47], 47), ([47, 47, 61], 48), ([47, 61], 39), ([58], 11), ([58, 61], 53), ([59], 13), ([60], 20), ([60, 60], 33), ([60, 60, 61], 44), ([60, 61], 29), ([61], 22), ([61, 61], 27), ([62], 21), ([62, 61], 30), ([62, 62], 34), ([62, 62, 61], 45), ([64], 49), ([64, 61], 50), ([91], 9), ([93], 10), ([94], 32), ([94, 61], 43), ([123], 25), ([124], 18), ([124, 61], 42), ([125], 26), ([126], 31)]
noncomputable def numL (l : List Nat) : Int := (tokens.lookup l).getD 256
theorem num_flat {v : Value} {x : Str} (h : PyProof.V.Flat v ((Spec.lookup (.str x) (tokens.map fun e => (PyData.str ⟨e.1.toArray⟩, PyData.int e.2))).getD (.int 256))) : ∃ t, v = .int (numL x.cps.toList) t := by
  rw [lookup_strs] at h
  unfold numL
  cases hq : tokens.lookup x.cps.toList with
  | none => rw [hq] at h; exact h.int_inv
  | some i => rw [hq] at h; exact h.int_inv
/-- a dict of the ledger that holds a table of texts -/
structure DictS (prog : Program) (w : World) (d : Addr) (o : Obj) (D : List (PyData × PyData)) : Prop where
  lo : (d == sysModules) = false
  at_ : ∃ kvs, o.IsDictOf (PySem.strKind prog w) kvs ∧ PyProof.V.FlatPairs PyData.str kvs D
theorem dictS_of {prog : Program} {w : World} {d : Addr} {o : Obj} {D D' : List (PyData × PyData)} {kvs : List (Str × Value)} (lo : (d == sysModules) = false) (hd : o.IsDictOf (PySem.strKind prog w) kvs) (hf : PyProof.V.FlatPairs PyData.str kvs D) (e : D = D') : DictS prog w d o D' :=
  ⟨lo, kvs, hd, e ▸ hf⟩
noncomputable def tabD (k : Nat) : List (PyData × PyData) := (tabs.getD k []).map fun e => (PyData.str ⟨#[e.1]⟩, PyData.str ⟨e.2.toArray⟩)
theorem spell_len (k a : Nat) : (spell k a).length ≤ 6 := by
  by_cases h : a ∈ [38, 60, 62, 34, 13, 10, 9]
  · rcases k with _ | _ | _ | _ | _ | k
    · revert a h; decide
    · revert a h; decide
    · revert a h; decide
    · revert a h; decide
    · revert a h; decide
    · exact Nat.le_of_ble_eq_true rfl
  · simp only [List.mem_cons, List.not_mem_nil, or_false, not_or] at h
    obtain ⟨h1, h2, h3, h4, h5, h6, h7⟩ := h
    rw [spell_other k a h1 h2 h3 h4 h5 h6 h7]
    exact Nat.le_of_ble_eq_true rfl
theorem lookup_one (c : Nat) : ∀ T : List (Nat × List Nat), (T.map fun e => ([e.1], e.2)).lookup [c] = T.lookup c
  | [] => rfl
  | (k, b) :: r => by
    rw [List.map_cons, List.lookup_cons, List.lookup_cons, lookup_one c r]
    by_cases h : c = k
    · subst h; simp
    · have h1 : (c == k) = false := beq_false_of_ne h
      have h2 : ([c] == [k]) = false := beq_false_of_ne fun e => h (by simpa using e)
      rw [h1, h2]
theorem spell_flat {v : Value} {k c : Nat} (h : PyProof.V.Flat v ((Spec.lookup (.str ⟨#[c]⟩) (tabD k)).getD (.str ⟨#[c]⟩))) : ∃ t, v = .str ⟨(spell k c).toArray⟩ t := by
  have e : tabD k = ((tabs.getD k []).map fun e => ([e.1], e.2)).map fun e => (PyData.str ⟨e.1.toArray⟩, PyData.str ⟨e.2.toArray⟩) := by
    unfold tabD; rw [List.map_map]; rfl
  have q := lookup_strs (fun b : List Nat => PyData.str ⟨b.toArray⟩) ⟨#[c]⟩ ((tabs.getD k []).map fun e => ([e.1], e.2))
  rw [e] at h
  rw [show Spec.lookup (PyData.str ⟨#[c]⟩) _ = _ from q] at h
  rw [show (⟨#[c]⟩ : Str).cps.toList = [c] from rfl, lookup_one] at h
  unfold spell
  cases hq : (tabs.getD k []).lookup c with
  | none => rw [hq] at h; exact h.str_inv
  | some b => rw [hq] at h; exact h.str_inv
/-- a letter's writings, from the outermost to the letter itself -/
noncomputable def layersS (x : Str) (hs : List Int) : List Str := hs.foldl (fun acc h => fm (spell h.toNat) (acc.headD ⟨#[]⟩) :: acc) [x]
/-- how a word stands on the page -/
noncomputable def blankOf (d : Int) : Nat := ([32, 10, 9, 13] : List Nat).getD ((d.fdiv 9).fmod 4).toNat 0
noncomputable def quoted (a : Nat) : List Nat := if a = 92 then [92, 92] else if a = 34 then [92, 34] else [a]
noncomputable def slashed (e : Bool) (a : Nat) : List Nat := if e || [32, 10, 9, 13, 34, 92].contains a then [92, a] else [a]
noncomputable def dressS (x : Str) (d : Int) : Str :=
  if (d.fdiv 3).fmod 3 = 1 then ⟨#[34]⟩ ++ fm quoted x ++ ⟨#[34]⟩ ++ ⟨#[blankOf d]⟩
  else fm (slashed (decide ((d.fdiv 3).fmod 3 = 2))) x ++ ⟨#[blankOf d]⟩
noncomputable def nl1 (c : List Nat) : Int := if c = [10] then 1 else 0
theorem nl_eq (l : List Nat) : ((⟨l.toArray⟩ : Str) == Str.ofString "\n") = decide (l = [10]) := by
  rw [show Str.ofString "\n" = ⟨#[10]⟩ from by decide +kernel]
  by_cases h : l = [10]
  · subst h; rfl
  · rw [decide_eq_false h]
    exact beq_false_of_ne fun e => h (by injection e with e; simpa using congrArg Array.toList e)
/-- a letter's signs, its escapes -/
noncomputable def signOf (c k : Int) : Nat := ([120, 32, 10, 9, 13, 34, 92, 38, 60, 62, 61, 59, (161 + (c.fdiv 169).fmod 55135).toNat] : List Nat).getD k.toNat 0
noncomputable def letterL (c : Int) : List Nat := [38, 61, signOf c (c.fmod 13), signOf c ((c.fdiv 13).fmod 13)]
noncomputable def handsOf (d : Int) : List Int := List.take (d.fmod 3).toNat [(d.fdiv 36).fmod 5, (d.fdiv 180).fmod 5]
end Mine
end
section
open PySem PySem.W PySem.Calls PyProof.Rows
set_option autoImplicit true
namespace Mine
/-- a mark: the walk halts here -/
noncomputable def Stop (P : Prop) : Prop := P
theorem Stop.intro {P : Prop} (h : P) : Stop P := h
theorem Stop.out {P : Prop} (h : Stop P) : P := h
section
variable {prog p : Program} {w : World} {A₀ A : Around} {s : Shared} {base h₀ : Heap} {outer : List Env} {L : Addr} {m : Str → Option Value} {env : Env} {shown hid : List (Addr × Obj)} {K : Frag}
  {R : Result → Shared → Prop} {name qual : Str} {params : Arguments} {body : List Stmt} {scope : Scope} {dV kV doc pm cdv ct oc : Value} {an od : Option Addr} {osl : Array (Option Value)} {f : Addr} {args : Args} {binds : List (Str × Value)}
  {loose : List Str} {mean : ExcName → Option Value} {mg mb : Str → Option Value}

/-- what is hidden behind a call stands when it comes back -/
theorem hid_stays {g h : Heap} {L' : Addr} {m' : Str → Option Value} (NH : News h₀ L s.heap hid) (off : ∀ p ∈ hid, ∀ q ∈ shown, p.1 ≠ q.1) (hg : g = hideAll s.heap (shown.map (·.1))) (F' : Fr g L' h m') : News h₀ L h hid := fun p hp => by
  refine ⟨F'.keep _ _ ?_, (NH p hp).2⟩
  rw [hg]
  refine hideAll_get _ (NH p hp).1 fun q => ?_
  obtain ⟨q, hq, e⟩ := List.mem_map.mp q
  exact off p hp q hq e.symm

theorem hid_in (NH : News h₀ L s.heap hid) (off : ∀ p ∈ hid, ∀ q ∈ shown, p.1 ≠ q.1) : ∀ p ∈ hid, (hideAll s.heap (shown.map (·.1))).get? p.1 = some p.2 := fun p hp => by
  refine hideAll_get _ (NH p hp).1 fun q => ?_
  obtain ⟨q, hq, e⟩ := List.mem_map.mp q
  exact off p hp q hq e.symm
/-- none of a ledger's objects lies there -/
noncomputable def Off (d : Addr) : List (Addr × Obj) → Prop
  | [] => True
  | p :: r => @Ne Nat p.1 d ∧ Off d r
theorem off_all {d : Addr} : ∀ {l : List (Addr × Obj)}, (∀ p ∈ l, p.1 ≠ d) → Off d l
  | [], _ => trivial
  | p :: _, h => ⟨h p (.head _), off_all fun q hq => h q (.tail _ hq)⟩
theorem Off.mem {d : Addr} : ∀ {l : List (Addr × Obj)}, Off d l → ∀ p ∈ l, p.1 ≠ d
  | [], _, _, h => nomatch h
  | _ :: _, x, p, h => by
    rcases List.mem_cons.mp h with rfl | h
    · exact x.1
    · exact Off.mem x.2 p h
theorem off_of {g h' : Heap} {L' l : Addr} {o : Obj} {news' : List (Addr × Obj)} (N' : News g L' h' news') (hp : (l, o) ∈ news') (hG : ∀ q ∈ hid, g.get? q.1 = some q.2) : Off l hid := off_all fun q hq e => by
  have := (N' _ hp).2.2
  rw [← e, hG q hq] at this
  cases this
theorem news_pick {h : Heap} {want have_ : List (Addr × Obj)} (N : News h₀ L h have_) (H : News h₀ L h hid) (hs : SubL want have_) : News h₀ L h (want ++ hid) := fun p hp =>
  (List.mem_append.mp hp).elim (fun q => N p (hs.mem p q)) (H p)

theorem enterS (B : Below A₀ base outer h₀) (F : Fr h₀ L s.heap m) (X₀ : K.In h₀) (NS : News h₀ L s.heap shown) (NH : News h₀ L s.heap hid) (off : ∀ p ∈ hid, ∀ q ∈ shown, p.1 ≠ q.1) (T : Top p loose mean mg mb h₀)
    (hA : A.frames = some (env :: outer)) (hf : env.frame = some L) (hke : env.scope.kind = .function)
    (ho : K.lookup f = some ⟨oc, od, .func (fnOf name qual params body scope dV kV doc pm an cdv ct), osl⟩) (hcd : codeIn K cdv qual = true) (hroom : A.depth < recursionLimit)
    (hbind : BindsTo s (fnOf name qual params body scope dV kV doc pm an cdv ct) args binds) (hloc : ∀ y ∈ binds, scope.names.lookup y.1 = some .local)
    (h : ∀ g L' h₁, Fr h₀ L g m → Fr g L' h₁ (fun y => binds.reverse.lookup y) → News g L' h₁ shown → Below A base (env :: outer) g → K.In g → Top p loose mean mg mb g → (∀ p ∈ shown, p.1 < L') → (∀ p ∈ hid, g.get? p.1 = some p.2) → (∀ p ∈ hid, p.1 < L') →
      wpAny (model prog w) (A.deeper (envOf qual scope L' f cdv)) (execs body (envOf qual scope L' f cdv))
        (fun fl s' => LeaveK h₀ L m g (fun r s' => News h₀ L s'.heap hid → R r s') (match fl with | .ret v => v | _ => .none) s')
        (fun e s' => wpAny (model prog w) (A.deeper (envOf qual scope L' f cdv)) (leaving (envOf qual scope L' f cdv) e) (fun _ s'' => R (.error e) s'') (fun e' s'' => R (.error e') s'') s')
        { s with heap := h₁, toks := s.toks + binds.length })
    (hco : scope.isCoroutine = false) (hgen : scope.isGenerator = false) (hk : scope.kind = .function)
    (hcell : ∀ x ∈ scope.names, x.2 ≠ .cell) : codeAny (model prog w) A (.call (.ref f) args) R s := by
  obtain ⟨FG, BG, st, lv⟩ := groundX (R := fun r s' => News h₀ L s'.heap hid → R r s') B F NS hA hf hke
  have Xs := X₀.keeps F.keep
  refine codeAny_call_def (fd := fnOf name qual params body scope dV kV doc pm an cdv ct) (body := body) (binds := binds) hroom (Xs _ _ ho) rfl (T.nolimit.keeps F.keep) (codeRec_of Xs hcd) rfl hbind hcell hloc (fun h₁ hns hk₁ => ?_) hco hgen hk
  have N₁ : News (hideAll s.heap (shown.map (·.1))) s.heap.objs.size h₁ shown := fun q hq =>
    ⟨hk₁ _ _ (NS q hq).1, Nat.ne_of_lt (Heap.lt_size (NS q hq).1), hideAll_none _ (List.mem_map_of_mem hq)⟩
  have F₁ : Fr (hideAll s.heap (shown.map (·.1))) s.heap.objs.size h₁ (fun y => binds.reverse.lookup y) := ⟨hns, fun b o e => hk₁ b o (of_hideAll _ e), Nat.le_of_eq (hideAll_size _ _)⟩
  refine wpAny_mono (h _ _ h₁ FG F₁ N₁ BG (X₀.keeps st) (T.keeps st) (fun q hq => Heap.lt_size (NS q hq).1) (hid_in NH off) (fun q hq => Heap.lt_size (NH q hq).1)) (fun fl s' hl => ?_) fun _ _ y => y
  have := lv _ _ hl
  obtain ⟨L', m', news', F', -, -⟩ := hl
  exact this (hid_stays NH off rfl F')

theorem enterCS (B : Below A₀ base outer h₀) (F : Fr h₀ L s.heap m) (X₀ : K.In h₀) (NS : News h₀ L s.heap shown) (NH : News h₀ L s.heap hid) (off : ∀ p ∈ hid, ∀ q ∈ shown, p.1 ≠ q.1) (T : Top p loose mean mg mb h₀)
    (hA : A.frames = some (env :: outer)) (hf : env.frame = some L) (hke : env.scope.kind = .function)
    (ho : K.lookup f = some ⟨oc, od, .func (fnOf name qual params body scope dV kV doc pm an cdv ct), osl⟩) (hcd : codeIn K cdv qual = true) (hroom : A.depth < recursionLimit)
    (hbind : BindsTo s (fnOf name qual params body scope dV kV doc pm an cdv ct) args binds) (hkind : (binds.all fun y => scope.names.lookup y.1 == some .local || scope.names.lookup y.1 == some .cell) = true)
    (hnd : ((cellsFrom 0 scope.names []).map (·.1)).Nodup)
    (h : ∀ g L' h₁ tk cells, Fr h₀ L g m → Fr g L' h₁ (bindL (envOfC qual scope L' f cdv).kindOf binds fun _ => none) → News g L' h₁ (cells ++ shown) →
      CellsAre (bindC (envOfC qual scope L' f cdv).kindOf binds fun _ => none) (cellsFrom (L' + 1) scope.names []) cells → Below A base (env :: outer) g → K.In g → Top p loose mean mg mb g → (∀ p ∈ shown, p.1 < L') → (∀ p ∈ hid, g.get? p.1 = some p.2) → (∀ p ∈ hid, p.1 < L') →
      wpAny (model prog w) (A.deeper (envOfC qual scope L' f cdv)) (execs body (envOfC qual scope L' f cdv))
        (fun fl s' => LeaveK h₀ L m g (fun r s' => News h₀ L s'.heap hid → R r s') (match fl with | .ret v => v | _ => .none) s')
        (fun e s' => wpAny (model prog w) (A.deeper (envOfC qual scope L' f cdv)) (leaving (envOfC qual scope L' f cdv) e) (fun _ s'' => R (.error e) s'') (fun e' s'' => R (.error e') s'') s')
        { s with heap := h₁, toks := tk })
    (hco : scope.isCoroutine = false) (hgen : scope.isGenerator = false) (hk : scope.kind = .function) : codeAny (model prog w) A (.call (.ref f) args) R s := by
  obtain ⟨FG, BG, st, lv⟩ := groundX (R := fun r s' => News h₀ L s'.heap hid → R r s') B F NS hA hf hke
  have Xs := X₀.keeps F.keep
  refine codeAny_call_function hroom (Xs _ _ ho) rfl hco hgen rfl (codeRec_of Xs hcd) (hbind _ _ _ _ ?_)
  refine wpAny_newFunctionEnv_cells hk (kindsX hkind _) fun env' he s' x => ?_
  subst he
  refine ⟨(T.nolimit.keeps F.keep).keeps x.toInCall.keep, codeAny_func ?_⟩
  obtain ⟨h₁, tk, rfl, _⟩ := x.done
  have hk₁ := x.toInCall.keep
  obtain ⟨cells, NC, Y⟩ := Cl.news (h₀ := s.heap) (Nat.le_refl _) fun n c hm => ⟨x.cell n c (lookup_of_mem_nodup (cellsFrom_names scope.names 0 (s.heap.objs.size + 1) [] [] rfl ▸ hnd) hm), x.above n c hm⟩
  have N₁ : News (hideAll s.heap (shown.map (·.1))) s.heap.objs.size h₁ (cells ++ shown) := fun q hq => by
    rcases List.mem_append.mp hq with hq | hq
    · refine ⟨(NC q hq).1, (NC q hq).2.1, ?_⟩
      cases e : (hideAll s.heap (shown.map (·.1))).get? q.1 with
      | none => rfl
      | some o => have := of_hideAll _ e; rw [(NC q hq).2.2] at this; cases this
    · exact ⟨hk₁ _ _ (NS q hq).1, Nat.ne_of_lt (Heap.lt_size (NS q hq).1), hideAll_none _ (List.mem_map_of_mem hq)⟩
  have F₁ : Fr (hideAll s.heap (shown.map (·.1))) s.heap.objs.size h₁ (bindL (envOfC qual scope s.heap.objs.size f cdv).kindOf binds fun _ => none) := ⟨x.toInCall.ns, fun b o e => hk₁ b o (of_hideAll _ e), Nat.le_of_eq (hideAll_size _ _)⟩
  refine wpAny_mono (h _ _ h₁ tk cells FG F₁ N₁ Y BG (X₀.keeps st) (T.keeps st) (fun q hq => Heap.lt_size (NS q hq).1) (hid_in NH off) (fun q hq => Heap.lt_size (NH q hq).1)) (fun fl s' hl => ?_) fun _ _ y => y
  have := lv _ _ hl
  obtain ⟨L', m', news', F', -, -⟩ := hl
  exact this (hid_stays NH off rfl F')
end
section
variable {M : Model} {A : Around} {E : Value → Shared → Prop} {s : Shared} {h₀ : Heap} {L : Addr} {m : Str → Option Value} {news : List (Addr × Obj)}
theorem newTuple_B {vs : List Value} {Q : Value → Shared → Prop} (F : Fr h₀ L s.heap m) (N : News h₀ L s.heap news)
    (h : ∀ D h', Fr h₀ L h' m → News h₀ L h' ((D, { cls := .type "tuple", data := .seq vs.toArray }) :: news) → (∀ p ∈ news, p.1 < D) → @LT.lt Nat _ L D → Q (.ref D) { s with heap := h' }) (hsz : vs.length ≤ sizeLine := by size_fits) :
    wpAny M A (newTuple vs) Q E s := newTuple_N F N (fun h' F' N' => h _ h' F' N' (fun p hp => Heap.lt_size (N p hp).1) F.ns.lt) hsz
theorem newList_B {vs : List Value} {Q : Value → Shared → Prop} (F : Fr h₀ L s.heap m) (N : News h₀ L s.heap news)
    (h : ∀ D h', Fr h₀ L h' m → News h₀ L h' ((D, listOf vs.toArray 0) :: news) → (∀ p ∈ news, p.1 < D) → @LT.lt Nat _ L D → Q (.ref D) { s with heap := h' }) (hsz : vs.length ≤ sizeLine := by size_fits) :
    wpAny M A (newList vs) Q E s := newList_N F N (fun h' F' N' => h _ h' F' N' (fun p hp => Heap.lt_size (N p hp).1) F.ns.lt) hsz
theorem lt_news {hid : List (Addr × Obj)} {L' D : Addr} (h : ∀ p ∈ hid, p.1 < L') (hD : @LT.lt Nat _ L' D) : ∀ p ∈ hid, p.1 < D := fun p hp => Nat.lt_trans (h p hp) hD
end
theorem strip {P : Prop} (h : P) : P := h
theorem news_app {h₀ h : Heap} {L : Addr} {a b : List (Addr × Obj)} (N1 : News h₀ L h a) (N2 : News h₀ L h b) : News h₀ L h (a ++ b) := fun p hp => (List.mem_append.mp hp).elim (N1 p) (N2 p)
end Mine
end
section
open PySem PySem.W PySem.Calls PyProof.Rows
namespace Mine
section
variable {prog : Program} {w : World} {A : Around} {E : Value → Shared → Prop} {s : Shared} {h₀ : Heap} {L : Addr} {m : Str → Option Value} {env : Env} {elt iter : Expr} {xn : Str} {px : Pos} {scope : Scope} {cl : List (Str × Addr)} {pos : Pos}

/-- an element of a comprehension over a text: a text of its own, the ledger as it was -/
noncomputable def TextEl (h₀ : Heap) (L : Addr) (m : Str → Option Value) (s : Shared) (z : Str) (nw : List (Addr × Obj)) (y : Value) (s₂ : Shared) : Prop :=
  ∃ t' h' tk', y = .str z t' ∧ s₂ = { s with heap := h', toks := tk' } ∧ Fr h₀ L h' m ∧ News h₀ L h' nw
/-- the source is a text: what its turns give, what is behind it -/
noncomputable def TextSrc (prog : Program) (w : World) (A : Around) (h₀ : Heap) (L : Addr) (m : Str → Option Value) (env : Env) (elt : Expr) (xn : Str) (scope : Scope) (cl : List (Str × Addr)) (g : Nat → Str) (Q : Value → Shared → Prop) (xv : Value) (s₁ : Shared) : Prop :=
  ∃ x t news, xv = .str x t ∧ A.handled = none ∧ Fr h₀ L s₁.heap m ∧ News h₀ L s₁.heap news ∧ x.cps.size ≤ sizeLine ∧
    (∀ c t I oI C oC D m₂ ys h tk (E' : Value → Shared → Prop), c ∈ x.cps.toList → LCg.NsObj oC m₂ → m₂ xn = some (.str ⟨#[c]⟩ t) → Fr h₀ L h m → News h₀ L h ((I, oI) :: (C, oC) :: (D, LCg.lst ys) :: news) → LCg.Off3 I C D news →
      wpAny (model prog w) A (eval elt (compEnvC scope cl C env)) (TextEl h₀ L m { s₁ with heap := h, toks := tk } (g c) ((I, oI) :: (C, oC) :: (D, LCg.lst ys) :: news)) E' { s₁ with heap := h, toks := tk }) ∧
    (∀ D ys h tk, StrsAre ys (x.cps.toList.map g) → Fr h₀ L h m → News h₀ L h ((D, LCg.lst ys) :: news) → Off D news → Q (.ref D) { s₁ with heap := h, toks := tk })

theorem off_of1 {D : Addr} : ∀ {l : List (Addr × Obj)}, LCg.Off1 D l → Off D l
  | [], _ => trivial
  | _ :: _, x => ⟨x.1, off_of1 x.2⟩
theorem strs_snoc {y : Str} {t : Tok} : ∀ {vs : List Value} {ys : List Str}, StrsAre vs ys → StrsAre (vs ++ [.str y t]) (ys ++ [y])
  | _, _, .nil => .cons y t .nil
  | _, _, .cons z u r => .cons z u (strs_snoc r)

theorem comp_text (g : Nat → Str) {Q : Value → Shared → Prop} (F₀ : Fr h₀ L s.heap m)
    (hclos : closureFor scope env = pure cl) (hcell : ∀ y ∈ scope.names, y.2 ≠ .cell) (hkind : scope.kind = .function)
    (hnames : ∀ y ∈ scope.names, y.2 = .local → scope.names.lookup y.1 = some .local) (hx : scope.names.lookup xn = some .local)
    (h : wpAny (model prog w) A (eval iter env) (TextSrc prog w A h₀ L m env elt xn scope cl g Q) E s)
    (hs : ∀ x, foldedSetIterable iter env x = pure x := by intro _; rfl) :
    wpAny (model prog w) A (eval (.ListComp elt [⟨.Name xn px, iter, [], 0⟩] scope pos) env) Q E s := by
  rw [eval_ListComp]
  refine wpAny_comprehension_free (use := none) rfl hs hclos hkind hnames (wpAny_mono h (fun xv s₁ h₁ => ?_) fun _ _ e => e)
  obtain ⟨x, t, news, rfl, hh, F, N, hsz, turn, fin⟩ := h₁
  have rest : ∀ gh : Heap, LCg.CompRest prog w A h₀ L m env elt xn scope cl { s₁ with heap := gh } (fun _ => True) (SignAt x) (fun ys nw => StrsAre ys (x.cps.toList.map g) ∧ nw = news) x.cps.size 0 [] news := by
    intro gh
    have key : ∀ (j i : Nat) (ys : List Value), i + j = x.cps.size → StrsAre ys ((x.cps.toList.take i).map g) →
        LCg.CompRest prog w A h₀ L m env elt xn scope cl { s₁ with heap := gh } (fun _ => True) (SignAt x) (fun ys nw => StrsAre ys (x.cps.toList.map g) ∧ nw = news) j i ys news := by
      intro j
      induction j with
      | zero =>
        intro i ys hi hy
        have e : i = x.cps.toList.length := by rw [Array.length_toList]; omega
        subst e
        rw [List.take_length] at hy
        exact LCg.CompRest.zero ⟨hy, rfl⟩
      | succ j ih =>
        intro i ys hi hy
        refine LCg.CompRest.succ ?_
        intro v I oI C oC D m₂ h tk E' hv hC hx F N off ne
        obtain ⟨c, u, hc, rfl⟩ := hv
        have hc' : x.cps.toList[i]? = some c := by rw [Array.getElem?_toList]; exact hc
        refine wpAny_mono (turn c u I oI C oC D m₂ ys h tk E' (List.mem_of_getElem? hc') hC hx F N off) (fun y s₂ hq => ?_) fun _ _ e => e
        obtain ⟨t', h', tk', rfl, rfl, F', N'⟩ := hq
        refine ⟨h', tk', news, rfl, F', N', off, trivial, ih (i + 1) _ (by omega) ?_⟩
        rw [List.take_add_one, hc']
        simpa using strs_snoc hy
    exact key x.cps.size 0 [] (by omega) (by simpa using StrsAre.nil)
  have go : ∀ (ty : String), Walks prog w A s₁.heap.objs.size [s₁.heap.objs.size] [s₁.heap.objs.size] x.cps.size (SignAt x) (fun i h => h.IsStrIter s₁.heap.objs.size ty x t i) →
      (s₁.heap.push { cls := .type ty, data := .fields #[.str x t, .int 0 0] }).IsStrIter s₁.heap.objs.size ty x t 0 →
      wpAny (model prog w) A (newList []) (fun acc s₃ => wpAny (model prog w) A (newFunctionEnv scope env.globals cl [] env.qual none .none (some env)) (fun cenv s₄ =>
        codeAny (model prog w) A (.compStart (.ListComp elt [⟨.Name xn px, iter, [], 0⟩] scope pos) 0 (.ref s₁.heap.objs.size) acc { cenv with scope := relabel scope env }) (compPost (model prog w) A E none Q acc cenv.locals) s₄) E s₃) E
        { s₁ with heap := s₁.heap.push { cls := .type ty, data := .fields #[.str x t, .int 0 0] } } := by
    intro ty W st0
    refine LCg.block_U (s₂ := { s₁ with heap := s₁.heap.push { cls := .type ty, data := .fields #[.str x t, .int 0 0] } }) W hsz (fun i h st => let ⟨o, ho, _⟩ := st; ⟨o, ho⟩) ?_ hcell hkind hx st0 (fun b hb => ?_)
      (F.keeps fun _ _ e => Heap.get?_push_of_some _ e) (N.grown fun _ _ e => Heap.get?_push_of_some _ e) (Nat.ne_of_lt F.ns.lt) (next_is_new F) (fun p hp => Nat.ne_of_lt (Heap.lt_size (N p hp).1)) trivial (rest _) ?_
    · intro i h h' o nw st e e' _ _ _
      obtain ⟨o', ho', r⟩ := st
      rw [e] at ho'
      cases ho'
      exact ⟨o, e', r⟩
    · rw [List.mem_singleton.mp hb]
      show s₁.heap.objs.size < (s₁.heap.push _).objs.size
      rw [Heap.size_push]; exact Nat.lt_succ_self _
    · intro D C h tk m' ys news' F' N' o1 hn hC₀ hD₀ hCL hDL hCD offC fn
      obtain ⟨hy, rfl⟩ := fn
      refine ⟨m', hn, fun h'' hs'' => fin D ys h'' tk hy (F'.change hs'' hCL hC₀) (fun p hp => ?_) (off_of1 o1)⟩
      refine ⟨hs''.extBut _ _ ?_ (N' p hp).1, (N' p hp).2⟩
      rcases List.mem_cons.mp hp with rfl | hp
      · exact Ne.symm hCD
      · exact offC p hp
  cases ha : x.cps.all (· < 128)
  · exact wpAny_pyIter_wide ha (go "str_iterator" (Walks.strWide hh _ x t) ⟨_, Heap.get?_push_size _ rfl, rfl, rfl⟩)
  · exact wpAny_pyIter_ascii ha (go "str_ascii_iterator" (Walks.strAscii hh _ x t) ⟨_, Heap.get?_push_size _ rfl, rfl, rfl⟩)
theorem join_fm (f : Nat → List Nat) (x : Str) : Str.join ⟨#[]⟩ (x.cps.toList.map fun c => (⟨(f c).toArray⟩ : Str)) = fm f x := by
  unfold fm
  generalize x.cps.toList = l
  induction l with
  | nil => rfl
  | cons c r ih =>
    cases r with
    | nil => simp [Str.join]
    | cons d r =>
      rw [List.map_cons] at ih
      rw [List.map_cons, List.map_cons, Str.join, ih]
      · show ((⟨(f c).toArray⟩ ++ ⟨#[]⟩ : Str) ++ ⟨(List.flatMap f (d :: r)).toArray⟩ : Str) = _
        show (Str.mk (((f c).toArray ++ #[]) ++ (List.flatMap f (d :: r)).toArray)) = _
        simp
      · intro h; cases h
theorem join_text {f : Nat → List Nat} {x : Str} {t : Tok} {b : Nat} {D : Addr} {ys : List Value} {nw : List (Addr × Obj)} {Q : Value → Shared → Prop} (N : News h₀ L s.heap ((D, LCg.lst ys) :: nw))
    (hy : StrsAre ys (x.cps.toList.map fun c => (⟨(f c).toArray⟩ : Str))) (hb : ∀ c, (f c).length ≤ b) (hx : b * x.length + x.length ≤ 1048576) (h : (fm f x).length ≤ b * x.length → ∀ t' k, Q (.str (fm f x) t') { s with toks := k }) :
    wpAny (model prog w) A (call (.builtin "str.join") [.str (Str.ofString "") t, .ref D]) Q E s := by
  rw [show Str.ofString "" = ⟨#[]⟩ from by decide +kernel]
  refine join_listW (N.isList (.head _)) (by simpa using hy) (by decide) ?_ (fun t' k => ?_)
  · rw [List.map_map, List.length_map, Array.length_toList]
    have : ((x.cps.toList.map ((fun y : Str => y.length) ∘ fun c => (⟨(f c).toArray⟩ : Str))).sum) ≤ b * x.cps.toList.length := by
      generalize x.cps.toList = l
      induction l with
      | nil => simp
      | cons c r ih =>
        rw [List.map_cons, List.sum_cons, List.length_cons, Nat.mul_succ]
        have h1 : ((fun y : Str => y.length) ∘ fun c => (⟨(f c).toArray⟩ : Str)) c ≤ b := by
          show (f c).toArray.size ≤ b
          rw [List.size_toArray]; exact hb c
        omega
    rw [Array.length_toList] at this
    rw [show x.length = x.cps.size from rfl] at hx
    omega
  · rw [show Txt.join ⟨#[]⟩ _ = Str.join ⟨#[]⟩ _ from StrLaws.glued_eq_join _ _, join_fm]
    exact h (fm_length b hb x) t' k
theorem replace_tok {x y z : Str} {t u v : Tok} {Q : Value → Shared → Prop} (hu : u ≠ 0) (hv : v ≠ 0) (huv : u ≠ v) (hyz : (y == z) = false) (hx : x.length ≤ 1048576) (hz : z.length ≤ 14)
    (hq : ∀ t' k, s.toks ≤ k → Q (.str (Txt.replace x y z) t') { s with toks := k }) : wpAny (model prog w) A (call (.builtin "str.replace") [.str x t, .str y u, .str z v]) Q E s := by
  have hb : x.length + (x.length + 1) * z.length ≤ 16777216 := by
    have h1 : (x.length + 1) * z.length ≤ (x.length + 1) * 14 := Nat.mul_le_mul_left _ hz
    omega
  have hl : Builtin.Str.tooLong (x.length + (Builtin.Str.occurrences x y 0 x.length (x.length + 1)).length * z.length) = false := by
    have h1 := StrLaws.occ_length_le x y 0 x.length (x.length + 1)
    have h2 : (Builtin.Str.occurrences x y 0 x.length (x.length + 1)).length * z.length ≤ (x.length + 1) * z.length := Nat.mul_le_mul_right _ h1
    unfold Builtin.Str.tooLong sizeLine
    exact decide_eq_false (by omega)
  refine call_gives F.slot_str_replace (typeIs_str _ _ _) F.entry_str_replace (F.args_str_replace_3 _ _ _) (gives_str_replace x y z t u v fun _ => ⟨by simp [hu, hv], by simp [huv], hyz, hl⟩) ?_
  have hq' := hq
  unfold Txt.replace at hq'
  cases hc : ((Builtin.Str.occurrences x y 0 x.length (x.length + 1)).isEmpty || (y.length == 0 && z.length == 0))
  · rw [hc] at hq'
    simp only [Bool.false_eq_true, if_false] at hq' ⊢
    exact ⟨fits_replaced y hb, hq' _ _ (Nat.le_succ _)⟩
  · rw [hc] at hq'
    simp only [if_true] at hq' ⊢
    exact hq' t s.toks (Nat.le_refl _)
theorem one_len {b : Nat} {z : List Nat} (hz : z.length ≤ 14) (f : Nat → List Nat) (x : Str) : (fm (fun a => (f a).flatMap (one b z)) x).length ≤ 14 * (fm f x).length := by
  rw [← fm_fm]
  refine fm_length 14 (fun a => ?_) _
  unfold one
  split
  · exact hz
  · exact Nat.le_of_ble_eq_true rfl
theorem replace_fm {c r : String} {f : Nat → List Nat} {x : Str} {t u v : Tok} {Q : Value → Shared → Prop} (hu : u ≠ 0) (hv : v ≠ 0) (huv : u ≠ v) (hne : (Str.ofString c == Str.ofString r) = false) (hc : Str.ofString c = ⟨#[(Str.ofString c).cps.getD 0 0]⟩)
    (hx : (fm f x).length ≤ 1048576) (hz : (Str.ofString r).length ≤ 14) (h : (fm (fun a => (f a).flatMap (one ((Str.ofString c).cps.getD 0 0) (Str.ofString r).cps.toList)) x).length ≤ 14 * (fm f x).length → ∀ t' k, s.toks ≤ k → Q (.str (fm (fun a => (f a).flatMap (one ((Str.ofString c).cps.getD 0 0) (Str.ofString r).cps.toList)) x) t') { s with toks := k }) :
    wpAny (model prog w) A (call (.builtin "str.replace") [.str (fm f x) t, .str (Str.ofString c) u, .str (Str.ofString r) v]) Q E s := by
  refine replace_tok hu hv huv hne hx hz (fun t' k hk => ?_)
  rw [show Txt.replace (fm f x) (Str.ofString c) (Str.ofString r) = Txt.replace (fm f x) ⟨#[(Str.ofString c).cps.getD 0 0]⟩ (Str.ofString r) from congrArg (fun c => Txt.replace (fm f x) c (Str.ofString r)) hc, rep_one, fm_fm]
  exact h (one_len (by rw [Array.length_toList]; exact hz) f x) t' k hk
end
section
variable {prog : Program} {w : World} {A : Around} {E : Value → Shared → Prop} {s : Shared} {h₀ : Heap} {L : Addr} {value slice : Expr} {Q : Value → Shared → Prop} {nw : List (Addr × Obj)}
/-- one of the five dicts, at an open place -/
theorem item_spelled {l d0 d1 d2 d3 d4 : Addr} {o0 o1 o2 o3 o4 : Obj} {n : Nat} {i : Int} {u : Tok} (N : News h₀ L s.heap ((l, listOf #[.ref d0, .ref d1, .ref d2, .ref d3, .ref d4] n) :: (d4, o4) :: (d3, o3) :: (d2, o2) :: (d1, o1) :: (d0, o0) :: nw))
    (S0 : DictS prog w d0 o0 (tabD 0)) (S1 : DictS prog w d1 o1 (tabD 1)) (S2 : DictS prog w d2 o2 (tabD 2)) (S3 : DictS prog w d3 o3 (tabD 3)) (S4 : DictS prog w d4 o4 (tabD 4))
    (q0 : ∀ q ∈ nw, q.1 < d0) (q1 : @LT.lt Nat _ d0 d1) (q2 : @LT.lt Nat _ d1 d2) (q3 : @LT.lt Nat _ d2 d3) (q4 : @LT.lt Nat _ d3 d4) (h0 : 0 ≤ i) (h5 : i < 5)
    (h : ∀ d o, DictS prog w d o (tabD i.toNat) → News h₀ L s.heap ((d, o) :: nw) → Off d nw → Q (.ref d) s)
    (hs : subscripted slice false (.ref l) (.int i u) = operate [.ref l, .int i u] (getItem (.ref l) (.int i u)) := by with_unfolding_all rfl) :
    wpAny (model prog w) A (subscriptTail value slice (.ref l) (.int i u)) Q E s := by
  have hl : s.heap.IsList l #[.ref d0, .ref d1, .ref d2, .ref d3, .ref d4] := N.isList (.head _)
  have off : ∀ d : Addr, @LE.le Nat _ d0 d → Off d nw := fun d hd => off_all fun q hq e => by
    have h1 : @LT.lt Nat _ q.1 d0 := q0 q hq
    have h2 : @Eq Nat q.1 d := e
    omega
  have pick : ∀ d o, (d, o) ∈ [(d4, o4), (d3, o3), (d2, o2), (d1, o1), (d0, o0)] → News h₀ L s.heap ((d, o) :: nw) := fun d o hm p hp => by
    rcases List.mem_cons.mp hp with rfl | hp
    · refine N _ (.tail _ ?_)
      exact List.mem_append_left nw hm
    · exact N p (by simp [hp])
  have e : i = 0 ∨ i = 1 ∨ i = 2 ∨ i = 3 ∨ i = 4 := by omega
  refine tail_any hl.typeIs slot_list_getitem.lookup ?_ hs
  rcases e with rfl | rfl | rfl | rfl | rfl
  · exact wpAny_getItem_list hl (by decide) (by decide) rfl (h d0 o0 S0 (pick _ _ (by simp)) (off _ (Nat.le_refl _)))
  · exact wpAny_getItem_list hl (by decide) (by decide) rfl (h d1 o1 S1 (pick _ _ (by simp)) (off _ (by omega)))
  · exact wpAny_getItem_list hl (by decide) (by decide) rfl (h d2 o2 S2 (pick _ _ (by simp)) (off _ (by omega)))
  · exact wpAny_getItem_list hl (by decide) (by decide) rfl (h d3 o3 S3 (pick _ _ (by simp)) (off _ (by omega)))
  · exact wpAny_getItem_list hl (by decide) (by decide) rfl (h d4 o4 S4 (pick _ _ (by simp)) (off _ (by omega)))
end
end Mine
namespace Mine
section
variable {prog : Program} {w : World} {A : Around} {E : Value → Shared → Prop} {s : Shared} {h₀ : Heap} {L : Addr} {m : Str → Option Value} {news : List (Addr × Obj)}
theorem strs_of_carried : ∀ {ys : List Value} {l : List Str}, CarriedAll ys (l.map PyData.str) → StrsAre ys l
  | ys, [], h => by cases h; exact .nil
  | ys, z :: r, h => by
    cases h with
    | cons h1 h2 =>
      cases h1
      exact .cons _ _ (strs_of_carried h2)
/-- the signs of a text, as a list of the ledger -/
theorem list_text {x : Str} {t : Tok} {Q : Value → Shared → Prop} (hh : A.handled = none) (F : Fr h₀ L s.heap m) (N : News h₀ L s.heap news) (hsz : x.length ≤ sizeLine)
    (h : ∀ D ys c h' tk, StrsAre ys (x.cps.toList.map fun k => (⟨#[k]⟩ : Str)) → Fr h₀ L h' m → News h₀ L h' ((D, listOf ys.toArray c) :: news) → (∀ q ∈ news, q.1 < D) → Q (.ref D) { s with heap := h', toks := tk }) :
    wpAny (model prog w) A (call (.type "list") [.str x t]) Q E s := by
  refine list_strD hh F N (fun h' tk ys F' N' _ hn _ hp hc => ?_) hsz
  obtain ⟨⟨c, hD⟩, hne⟩ := hp
  refine h _ ys c h' tk (strs_of_carried hc) F' (fun p hp => ?_) (fun q hq => Heap.lt_size (N q hq).1)
  rcases List.mem_cons.mp hp with rfl | hp
  · exact ⟨hD, Nat.ne_of_gt F.ns.lt, hn⟩
  · exact N' p hp
end
end Mine
namespace Mine
open PyProof.V PySem.Spec PySem.SeqAt
theorem readsAll_of_strs {h : Heap} : ∀ {vs : List Value} {xs : List Str}, StrsAre vs xs → ReadsAll h vs (xs.map PyData.str) []
  | _, _, .nil => .nil
  | _, _, .cons k t r => by
    have := ReadsAll.cons (Reads.str (h := h) k t) (readsAll_of_strs (h := h) r)
    simpa using this
theorem reads_of_strs {h : Heap} {a : Addr} {vs : List Value} {xs : List Str} (hl : h.IsList a vs.toArray) (hi : StrsAre vs xs) : Reads h (.ref a) (.list (xs.map PyData.str)) [a] := by
  obtain ⟨o, ho, hc, n, hd⟩ := hl
  exact Reads.list ho hc hd (by simpa using readsAll_of_strs hi)
theorem canLayAll0_strs : ∀ xs : List Str, (∀ x ∈ xs, PyData.strOk x = true) → PyData.canLayAll0 (xs.map PyData.str) = true
  | [], _ => by simp [PyData.canLayAll0]
  | n :: r, h => by simp [PyData.canLayAll0, PyData.canLay0, h n (.head _), canLayAll0_strs r fun x hx => h x (.tail _ hx)]
theorem depthAll_strs : ∀ xs : List Str, PyData.depthAll (xs.map PyData.str) ≤ 1
  | [] => by simp [PyData.depthAll]
  | n :: r => by
    have := depthAll_strs r
    simp only [List.map_cons, PyData.depthAll, PyData.depth]
    omega
theorem shaped_strs (xs : List Str) (hx : ∀ x ∈ xs, PyData.strOk x = true) : shaped (.list (xs.map PyData.str)) = true := by
  have h1 := depthAll_strs xs
  have h2 : PyData.depth (.list (xs.map PyData.str)) ≤ 64 := by simp only [PyData.depth]; omega
  show (PyData.canLay0 (.list (xs.map PyData.str)) && decide (PyData.depth (.list (xs.map PyData.str)) ≤ 64)) = true
  rw [Bool.and_eq_true]
  exact ⟨by simp only [PyData.canLay0]; exact canLayAll0_strs xs hx, decide_eq_true h2⟩
theorem noMix_strs : ∀ xs ys : List Str, noMixAll (xs.map PyData.str) (ys.map PyData.str) = true
  | [], [] => by simp [noMixAll]
  | [], _ :: _ => by simp [noMixAll]
  | _ :: _, [] => by simp [noMixAll]
  | _ :: r, _ :: q => by simp [noMixAll, noMix, noMix_strs r q]
theorem same_strs : ∀ xs ys : List Str, PySem.Spec.sameAll (xs.map PyData.str) (ys.map PyData.str) = decide (xs = ys)
  | [], [] => by simp [PySem.Spec.sameAll]
  | [], _ :: _ => by simp [PySem.Spec.sameAll]
  | _ :: _, [] => by simp [PySem.Spec.sameAll]
  | n :: r, k :: q => by
    simp only [List.map_cons, PySem.Spec.sameAll, PySem.Spec.same, same_strs r q]
    by_cases h : n = k <;> simp [h]
section
variable {prog : Program} {w : World} {A : Around} {E : Value → Shared → Prop} {s : Shared}
theorem eq_strsK {a b : Addr} {vs us : List Value} {xs ys : List Str} {Q : Value → Shared → Prop} (hl : s.heap.IsList a vs.toArray) (hi : StrsAre vs xs) (hl' : s.heap.IsList b us.toArray) (hi' : StrsAre us ys) (hx : ∀ x ∈ xs, PyData.strOk x = true) (hy : ∀ x ∈ ys, PyData.strOk x = true) (hu : A.units + 64 < cLine)
    (h : Q (.bool (decide (xs = ys))) s) : wpAny (model prog w) A (compareOp .Eq (.ref a) (.ref b)) Q E s :=
  eq_dataH_same (reads_of_strs hl hi) (reads_of_strs hl' hi') (shaped_strs xs hx) (shaped_strs ys hy) hu (by simp only [noMix]; exact noMix_strs xs ys) (by simp only [PySem.Spec.same]; rw [same_strs]; exact h)
theorem ne_strsK {a b : Addr} {vs us : List Value} {xs ys : List Str} {Q : Value → Shared → Prop} (hl : s.heap.IsList a vs.toArray) (hi : StrsAre vs xs) (hl' : s.heap.IsList b us.toArray) (hi' : StrsAre us ys) (hx : ∀ x ∈ xs, PyData.strOk x = true) (hy : ∀ x ∈ ys, PyData.strOk x = true) (hu : A.units + 64 < cLine)
    (h : Q (.bool (!decide (xs = ys))) s) : wpAny (model prog w) A (compareOp .NotEq (.ref a) (.ref b)) Q E s :=
  ne_dataH_same (reads_of_strs hl hi) (reads_of_strs hl' hi') (shaped_strs xs hx) (shaped_strs ys hy) hu (by simp only [noMix]; exact noMix_strs xs ys) (by simp only [PySem.Spec.same]; rw [same_strs]; exact h)
end
end Mine
namespace Mine
section
variable {prog : Program} {w : World} {A : Around} {E : Value → Shared → Prop} {s : Shared} {h₀ : Heap} {L D : Addr} {m : Str → Option Value} {news news' : List (Addr × Obj)}
theorem pop_first {y : Value} {vs : List Value} {n : Nat} {u : Tok} {Q : Value → Shared → Prop} (F : Fr h₀ L s.heap m) (N : News h₀ L s.heap news) (U : Upd D (listOf (y :: vs).toArray n) (listOf vs.toArray (n + 1)) news news')
    (hz : (y :: vs).length ≤ sizeLine) (h : ∀ h', Fr h₀ L h' m → News h₀ L h' news' → Q y { s with heap := h' }) : wpAny (model prog w) A (call (.builtin "list.pop") [.ref D, .int 0 u]) Q E s :=
  kl_popAt (k := 0) (p := []) (q := vs) F N rfl (by unfold seqIndex?; simp) rfl U hz h
theorem strs_length : ∀ {vs : List Value} {xs : List Str}, StrsAre vs xs → vs.length = xs.length
  | _, _, .nil => rfl
  | _, _, .cons _ _ r => by rw [List.length_cons, List.length_cons, strs_length r]
end
end Mine
end
section
open PySem PySem.W PyProof.Rows
namespace Mine
theorem pre.tw12863743462289780895 : True := trivial
theorem pre.tw11432095895762842861 : True := trivial
section
local macro_rules | `(tactic| o_head $_) => `(tactic| skip)
theorem tr (_ : Nat) : True := True.intro
set_option Elab.async true in
theorem pre : True := by
  clear pre
  refine tr ((by exact fun _ _ _ => 0 : (T : Prop) → T → PySem.Challenge.rw_st0027_01.Holds → Nat) _ ?y (by w_on; o_law; k_head; exact ?y))
end
end Mine
end
section
open PySem PySem.W PySem.Calls PyProof.Rows
namespace Mine
/-- where a lexer of the law's lies, and its tokens -/
structure LexP where
  (lx ldx st sdx f c' cell sg pb spb : Addr)
  (k1 k2 k3 k4 sw j1 j2 j3 j4 j5 u1 u3 : Tok)
  (fo oc co : Obj)
/-- the objects of a lexer -/
@[reducible] noncomputable def lexNews (w : World) (P : LexP) (ln : Int) (lt : Tok) (pbs : Array Value) (pn : Nat) (sgs : Array Value) (sn : Nat) (rest : List (Addr × Obj)) : List (Addr × Obj) :=
  (P.pb, listOf pbs pn) :: (P.lx, instObj 52 P.ldx) ::
  (P.ldx, dictOf [⟨PyData.keyHash w.params (Str.ofString "lineno"), .str (Str.ofString "lineno") P.k1, .int ln lt⟩, ⟨PyData.keyHash w.params (Str.ofString "instream"), .str (Str.ofString "instream") P.k2, .ref P.st⟩,
    ⟨PyData.keyHash w.params (Str.ofString "whitespace"), .str (Str.ofString "whitespace") P.k3, .str (Str.ofString "\n\t\r ") P.sw⟩, ⟨PyData.keyHash w.params (Str.ofString "pushback"), .str (Str.ofString "pushback") P.k4, .ref P.pb⟩] 4) ::
  (P.f, P.fo) :: (P.c', P.oc) :: (P.st, instObj 52 P.sdx) ::
  (P.sdx, dictOf [⟨PyData.keyHash w.params (Str.ofString "lineno"), .str (Str.ofString "lineno") P.j1, .int 1 P.u1⟩, ⟨PyData.keyHash w.params (Str.ofString "instream"), .str (Str.ofString "instream") P.j2, .none⟩,
    ⟨PyData.keyHash w.params (Str.ofString "whitespace"), .str (Str.ofString "whitespace") P.j3, .str (Str.ofString "\n\t\r ") P.u3⟩, ⟨PyData.keyHash w.params (Str.ofString "pushback"), .str (Str.ofString "pushback") P.j4, .ref P.spb⟩,
    ⟨PyData.keyHash w.params (Str.ofString "read"), .str (Str.ofString "read") P.j5, .ref P.f⟩] 5) ::
  (P.sg, listOf sgs sn) :: (P.cell, P.co) :: rest
/-- what a call of the reading function gives: the next sign, if there is one -/
noncomputable def ReadC (prog : Program) (w : World) (P : LexP) : Prop :=
  ∀ {p : Program} {loose : List Str} {mean : ExcName → Option Value} {mg mb : Str → Option Value} {dp un : Nat} {gd : Option (List Code)} {cn : Str} {cs : Scope} {a : Addr} {ccd : Value} {cl : List (Str × Addr)} {outer : List Env} {A₀ : Around} {base h₀ : Heap} {L : Addr} {m : Str → Option Value} {s : Shared} {Q E : Value → Shared → Prop}
    {news : List (Addr × Obj)} {sgs : List Value} {sn : Nat} {xs : List Nat} {t : Tok},
    Below A₀ base outer h₀ → Fr h₀ L s.heap m → (pre.heap_1_39 w.params).In h₀ → News h₀ L s.heap ((P.sg, listOf sgs.toArray sn) :: (P.f, P.fo) :: (P.c', P.oc) :: (P.cell, P.co) :: news) → Top p loose mean mg mb h₀ → cs.kind = .function → dp + 1 < recursionLimit → un + 100 < cLine →
    StrsAre sgs (xs.map fun k => (⟨#[k]⟩ : Str)) → xs.length ≤ 10000 → (∀ c ∈ xs, c < 1114112) → (∀ q ∈ news, q.1 ≠ P.sg) →
    (∀ t' sgs' sn' h' tk', StrsAre sgs' ((xs.drop 1).map fun k => (⟨#[k]⟩ : Str)) → Fr h₀ L h' m → News h₀ L h' ((P.sg, listOf sgs'.toArray sn') :: (P.f, P.fo) :: (P.c', P.oc) :: (P.cell, P.co) :: news) →
      Q (.str ⟨(xs.take 1).toArray⟩ t') { s with heap := h', toks := tk' }) →
    wpAny (model prog w) (ktrTop dp un gd cn cs L a ccd cl outer) (call (.ref P.f) [.int 1 t]) Q E s
/-- a lexer that is right -/
structure LexOk (prog : Program) (w : World) (P : LexP) : Prop where
  read : ReadC prog w P
  fn : ∃ fd, P.fo.data = .func fd
  o1 : @LT.lt Nat _ P.cell P.sg
  o2 : @LT.lt Nat _ P.sg P.sdx
  o3 : @LT.lt Nat _ P.sdx P.st
  o4 : @LT.lt Nat _ P.st P.c'
  o5 : @LT.lt Nat _ P.c' P.f
  o6 : @LT.lt Nat _ P.f P.ldx
  o7 : @LT.lt Nat _ P.ldx P.lx
  o8 : @LT.lt Nat _ P.lx P.pb
/-- what else stands lies off the lexer -/
noncomputable def Apart (P : LexP) (news : List (Addr × Obj)) : Prop := ∀ q ∈ news, @LT.lt Nat _ q.1 P.cell ∨ @LT.lt Nat _ P.pb q.1
theorem apart_off {prog : Program} {w : World} {P : LexP} {ln : Int} {lt : Tok} {pbs : Array Value} {pn : Nat} {sgs : Array Value} {sn : Nat} {news : List (Addr × Obj)} (h : Apart P news) (o : LexOk prog w P) :
    ∀ q ∈ news, ∀ r ∈ lexNews w P ln lt pbs pn sgs sn [], q.1 ≠ r.1 := fun q hq r hr e => by
  obtain ⟨-, -, o1, o2, o3, o4, o5, o6, o7, o8⟩ := o
  have h1 := h q hq
  simp only [List.mem_cons, List.not_mem_nil, or_false] at hr
  have e' : @Eq Nat q.1 r.1 := e
  rcases hr with rfl | rfl | rfl | rfl | rfl | rfl | rfl | rfl | rfl <;> (dsimp only at e'; omega)
theorem lex_split {w : World} {P : LexP} {ln : Int} {lt : Tok} {pbs : Array Value} {pn : Nat} {sgs : Array Value} {sn : Nat} {news : List (Addr × Obj)} {h₀ h : Heap} {L : Addr} (N : News h₀ L h (lexNews w P ln lt pbs pn sgs sn news)) :
    News h₀ L h (lexNews w P ln lt pbs pn sgs sn []) ∧ News h₀ L h news := by
  have e : lexNews w P ln lt pbs pn sgs sn news = lexNews w P ln lt pbs pn sgs sn [] ++ news := rfl
  rw [e] at N
  exact ⟨fun q hq => N q (List.mem_append_left _ hq), fun q hq => N q (List.mem_append_right _ hq)⟩
theorem lex_join {w : World} {P : LexP} {ln : Int} {lt : Tok} {pbs : Array Value} {pn : Nat} {sgs : Array Value} {sn : Nat} {hid have_ : List (Addr × Obj)} {h₀ h : Heap} {L : Addr} (N : News h₀ L h have_) (H : News h₀ L h hid) (hs : SubL (lexNews w P ln lt pbs pn sgs sn []) have_) :
    News h₀ L h (lexNews w P ln lt pbs pn sgs sn hid) := by
  have e : lexNews w P ln lt pbs pn sgs sn hid = lexNews w P ln lt pbs pn sgs sn [] ++ hid := rfl
  rw [e]
  exact news_pick N H hs
theorem news_sub {h₀ h : Heap} {L : Addr} {want have_ : List (Addr × Obj)} (N : News h₀ L h have_) (hs : SubL want have_) : News h₀ L h want := fun p hp => N p (hs.mem p hp)
theorem lexFn {prog : Program} {w : World} {P : LexP} {h₀ h : Heap} {L : Addr} {news : List (Addr × Obj)} (o : LexOk prog w P) (N : News h₀ L h news) (hm : (P.f, P.fo) ∈ news) : FnAt P.f h := by
  obtain ⟨fd, e⟩ := o.fn
  have hg := (N _ hm).1
  revert e hg
  dsimp only
  generalize P.fo = q
  obtain ⟨oc, od, dt, sl⟩ := q
  rintro e hg
  cases e
  exact ⟨_, _, _, _, hg⟩
end Mine
end
section
open PySem PySem.W PySem.Calls PyProof.Rows
namespace Mine
/-- an iterator over a call, and one that has ended -/
noncomputable abbrev citObj (f x : Value) (b : Bool) : Obj := { cls := .type "callable_iterator", data := .fields #[f, x, .bool b] }
theorem slot_cit_iter : Slot "callable_iterator" "__iter__" "callable_iterator.__iter__" :=
  .of (owner := "callable_iterator") (n := "__iter__") (by rw [typeLookup_type, builtinLookup_eq_fast]; kernel_rfl) (by decide +kernel) (by decide +kernel) (by decide +kernel)
    (by first | exact .inl (by decide +kernel) | exact .inr (by decide +kernel)) (by rw [isSubtype_type]; kernel_rfl)
theorem slot_cit_next : Slot "callable_iterator" "__next__" "callable_iterator.__next__" :=
  .of (owner := "callable_iterator") (n := "__next__") (by rw [typeLookup_type, builtinLookup_eq_fast]; kernel_rfl) (by decide +kernel) (by decide +kernel) (by decide +kernel)
    (by first | exact .inl (by decide +kernel) | exact .inr (by decide +kernel)) (by rw [isSubtype_type]; kernel_rfl)
theorem owner_cit : Manifest.owners.lookup (String.ofList ['r', 'o', 't', 'a', 'r', 'e', 't', 'i', '_', 'e', 'l', 'b', 'a', 'l', 'l', 'a', 'c'].reverse) = some Manifest.sig_callable_iterator := by kernel_rfl
theorem entry_cit_next : entryFor table "callable_iterator.__next__" = some Builtin.«callable_iterator.__next__» := entryFor_of_tree (by kernel_rfl)
theorem entry_cit_iter : entryFor table "callable_iterator.__iter__" = some Builtin.«dict_keyiterator.__iter__» :=
  entryFor_alias (id' := "dict_keyiterator.__iter__") (by kernel_rfl) rfl (by decide +kernel) (by kernel_rfl)
theorem args_cit_next (a : Value) : argsOk "callable_iterator.__next__" ⟨[a], []⟩ := by
  unfold argsOk; rw [signature?_of (id := "callable_iterator.__next__") (n := ['_', '_', 't', 'x', 'e', 'n', '_', '_']) (o := ['r', 'o', 't', 'a', 'r', 'e', 't', 'i', '_', 'e', 'l', 'b', 'a', 'l', 'l', 'a', 'c']) (by kernel_rfl) owner_cit]; kernel_rfl
theorem args_cit_iter (a : Value) : argsOk "callable_iterator.__iter__" ⟨[a], []⟩ := by
  unfold argsOk; rw [signature?_of (id := "callable_iterator.__iter__") (n := ['_', '_', 'r', 'e', 't', 'i', '_', '_']) (o := ['r', 'o', 't', 'a', 'r', 'e', 't', 'i', '_', 'e', 'l', 'b', 'a', 'l', 'l', 'a', 'c']) (by kernel_rfl) owner_cit]; kernel_rfl
theorem args_iter2 (a b : Value) : argsOk "iter" ⟨[a, b], []⟩ := by unfold argsOk; kernel_rfl
theorem look_method_call : typeLookup (.type "method") "__call__" = pure (some (.builtin "method.__call__")) := by rw [typeLookup_type, builtinLookup_eq_fast]; kernel_rfl
section
variable {prog : Program} {w : World} {A : Around} {E : Value → Shared → Prop} {s : Shared} {h₀ : Heap} {L q : Addr} {m : Str → Option Value} {news : List (Addr × Obj)}
theorem cit_type {f x : Value} {b : Bool} (N : News h₀ L s.heap news) (hq : (q, citObj f x b) ∈ news) : s.TypeIs (.ref q) "callable_iterator" := ⟨_, (N _ hq).1, rfl⟩
theorem cit_pyIter {f x : Value} {b : Bool} {Q : Value → Shared → Prop} (N : News h₀ L s.heap news) (hq : (q, citObj f x b) ∈ news) (h : Q (.ref q) s) : wpAny (model prog w) A (pyIter (.ref q)) Q E s := by
  have ty := cit_type N hq
  refine wpAny_pyIter_slot ty slot_cit_iter (wpAny_call_entry slot_cit_iter ty entry_cit_iter ?_ (args_cit_iter _))
  show wpAny _ _ (ret (.ref q)) _ _ s
  exact wpAny_pure ⟨_, rfl, "callable_iterator", _, ty, slot_cit_next.lookup, h⟩
/-- `iter(f, x)` of a bound method -/
theorem iter2 {b : Addr} {f self x : Value} {Q : Value → Shared → Prop} (F : Fr h₀ L s.heap m) (N : News h₀ L s.heap news) (hb : (b, methodObj f self) ∈ news)
    (h : ∀ q h', Fr h₀ L h' m → News h₀ L h' ((q, citObj (.ref b) x false) :: news) → (∀ p ∈ news, p.1 < q) → Q (.ref q) { s with heap := h' }) :
    wpAny (model prog w) A (call (.builtin "iter") [.ref b, x]) Q E s := by
  refine call_function_entry (by decide +kernel) (by decide +kernel) kdk_entry_iter (args_iter2 _ _) ?_
  unfold Builtin.«iter»
  refine wpAny_bind (m := someArgs "iter" 1 2 _) (wpAny_of_eq (a := [Value.ref b, x]) (by first | rfl | kernel_rfl!) ?_)
  dsimp only
  refine wpAny_bind (wpAny_specialOf (T := "method") ⟨_, (N _ hb).1, rfl⟩ look_method_call ?_)
  simp only [Option.isNone_some, Bool.false_eq_true, if_false]
  refine wpAny_bind (wpAny_rule ?_)
  refine wpAny_bind ?_
  refine wpAny_newObj_type ?_
  exact wpAny_pure ⟨_, rfl, h _ _ (F.push _) (News.push F N _ rfl) (fun p hp => Heap.lt_size (N p hp).1)⟩
theorem call_borrowed {f : Value} {pos : List Value} {Q : Value → Shared → Prop} (h : wpAny (model prog w) A (call f pos) Q E s) : wpAny (model prog w) A (callBorrowed f pos) Q E s := fun Γ p hΓ => by
  have := h Γ p hΓ
  unfold call at this
  rw [Sem.wp_runValue] at this
  unfold callBorrowed
  show wpCode _ _ _ p s
  refine wpCode_mono (fun r s' hr => ?_) this
  cases r with
  | error e => exact hr
  | ok f => cases f <;> exact hr
theorem borrows_fn {b : Addr} {f : Addr} {self : Value} {Q : Bool → Shared → Prop} (hb : s.heap.get? b = some (methodObj (.ref f) self)) (hf : FnAt f s.heap) (h : Q true s) : wpAny (model prog w) A (borrowsExactly (.ref b)) Q E s := by
  obtain ⟨_, _, _, _, hf⟩ := hf
  unfold borrowsExactly
  refine wpAny_bind (wpAny_load hb ?_)
  show wpAny _ _ (do match (← load f).data with | .func _ => pure true | _ => pure false) _ _ _
  exact wpAny_bind (wpAny_load hf (wpAny_pure h))
theorem stop_next {Q : Option Value → Shared → Prop} {T : Type} (hh : A.handled = none) (F : Fr h₀ L s.heap m) (N : News h₀ L s.heap news) (h : ∀ h', Fr h₀ L h' m → News h₀ L h' news → Q none { s with heap := h' }) :
    wpAny (model prog w) A.in1 (PySem.Builtin.SmallTypes.stopIteration : Sem T) (fun _ _ => False) (fun e s' => wpAny (model prog w) A (do if ← isInstance e (.type "StopIteration") then pure none else throw e) Q E s') s := by
  show wpAny _ _ (newExc (.type "StopIteration") [] >>= _) _ _ _
  refine wpAny_bind ?_
  simp only [newExc, newTuple]
  refine wpAny_bind (wpAny_newObj_type ?_ (by size_fits))
  refine wpAny_bind (m := firstArgMember _ _) (wpAny_of_eq (a := Value.none) (by first | rfl | (simp only [firstArgMember]; rfl)) ?_)
  refine wpAny_newObj_type ?_ (by size_fits)
  simp only [raiseNew]
  refine wpAny_bind (wpAny_handled ?_)
  rw [show A.in1.handled = none from hh]
  refine wpAny_bind (wpAny_pure (wpAny_throw ?_))
  refine wpAny_bind (wpAny_isInstance (T := "StopIteration") (b := true) ⟨_, Heap.get?_push_size _ rfl, rfl⟩ isSubtype_stop ?_)
  exact wpAny_pure (h _ ((F.push _).push _) (fun p hp => News.push (F.push _) (News.push F N _ rfl) _ rfl p (.tail _ (.tail _ hp))))
theorem cit_next {b f : Addr} {self x : Value} {Q : Option Value → Shared → Prop} (N : News h₀ L s.heap news) (hq : (q, citObj (.ref b) x false) ∈ news) (hb : (b, methodObj (.ref f) self) ∈ news) (hf : FnAt f s.heap) (hh : A.handled = none)
    (h : wpAny (model prog w) A.in1 (call (.ref b) []) (fun r s' => ∃ m' news', Fr h₀ L s'.heap m' ∧ News h₀ L s'.heap news' ∧ (q, citObj (.ref b) x false) ∈ news' ∧ (b, methodObj (.ref f) self) ∈ news' ∧ FnAt f s'.heap ∧
      wpAny (model prog w) A.in1 (eqBool x r) (fun e s'' => match e with
        | false => Q (some r) s''
        | true => ∃ m'' news'' nx, Fr h₀ L s''.heap m'' ∧ News h₀ L s''.heap news'' ∧ Upd q (citObj (.ref b) x false) (citObj .none .none true) news'' nx ∧ (b, methodObj (.ref f) self) ∈ news'' ∧ FnAt f s''.heap ∧ ∀ h', Fr h₀ L h' m'' → News h₀ L h' nx → Q none { s'' with heap := h' }) (fun _ _ => False) s') (fun _ _ => False) s) :
    wpAny (model prog w) A (pyNext (.ref q)) Q E s := by
  have ty := cit_type N hq
  unfold pyNext
  refine wpAny_bind (wpAny_attempt (wpAny_callSpecial?_slot (name := Str.ofString "__next__") ty slot_cit_next (wpAny_call_entry slot_cit_next ty entry_cit_next ?_ (args_cit_next _))))
  have ho := (N _ hq).1
  show wpAny _ _ (field (.ref q) 2 >>= _) _ _ s
  refine wpAny_bind (wpAny_field ho rfl (x := .bool false) rfl ?_)
  refine wpAny_ite_false rfl ?_
  show wpAny _ _ (field (.ref q) 0 >>= _) _ _ s
  refine wpAny_bind (wpAny_field ho rfl (x := .ref b) rfl ?_)
  refine wpAny_bind (wpAny_attempt ?_)
  unfold callOutOfASlot
  refine wpAny_bind (borrows_fn (N _ hb).1 hf ?_)
  refine wpAny_ite_true rfl ?_
  refine call_borrowed (wpAny_mono h (fun r s' hr => ?_) (fun _ _ e => e.elim))
  obtain ⟨m', news', F', N', hq', hb', hf', hr⟩ := hr
  have ho' := (N' _ hq').1
  show wpAny _ _ (field (.ref q) 2 >>= _) _ _ s'
  refine wpAny_bind (wpAny_field ho' rfl (x := .bool false) rfl ?_)
  refine wpAny_ite_false rfl ?_
  show wpAny _ _ (field (.ref q) 1 >>= _) _ _ s'
  refine wpAny_bind (wpAny_field ho' rfl (x := x) rfl ?_)
  refine wpAny_bind (wpAny_holding (wpAny_mono hr (fun e s'' he => ?_) (fun _ _ e => e.elim)))
  cases e with
  | false => 
    dsimp only at he
    refine wpAny_ite_true rfl ?_
    first | exact wpAny_pure ⟨_, rfl, wpAny_pure he⟩ | exact wpAny_bind (wpAny_pure (wpAny_pure ⟨_, rfl, wpAny_pure he⟩)) | exact wpAny_bind (wpAny_pure (wpAny_pure ⟨_, rfl, he⟩)) | exact wpAny_pure ⟨_, rfl, he⟩
  | true =>
    obtain ⟨m'', news'', nx, F'', N'', U, hb'', hf'', he⟩ := he
    obtain ⟨pre, post, rfl, rfl, h1, h2⟩ := U.split
    refine wpAny_ite_false rfl ?_
    refine wpAny_bind (wpAny_rule ?_)
    have D := N'' (q, citObj (.ref b) x false) (by simp)
    refine wpAny_bind ?_
    show wpAny _ _ (field (.ref q) 0 >>= _) _ _ s''
    refine wpAny_bind (wpAny_field D.1 rfl (x := .ref b) rfl ?_)
    refine wpAny_bind ?_
    show wpAny _ _ (borrowsExactly (.ref b) >>= _) _ _ s''
    refine wpAny_bind (borrows_fn (N'' _ hb'').1 hf'' ?_)
    refine wpAny_ite_true rfl ?_
    refine wpAny_pure ?_
    refine wpAny_bind (wpAny_setField D.1 rfl (by simp) ?_)
    obtain ⟨F1, N1⟩ := news_upd (f := Obj.mapFields (·.setIfInBounds 0 .none)) (o' := { cls := .type "callable_iterator", data := .fields #[.none, x, .bool false] }) F'' N'' h1 h2 rfl rfl
    refine wpAny_bind (wpAny_setField (N1 _ (List.mem_append_right _ (List.Mem.head _))).1 rfl (by simp) ?_)
    obtain ⟨F2, N2⟩ := news_upd (f := Obj.mapFields (·.setIfInBounds 1 .none)) (o' := { cls := .type "callable_iterator", data := .fields #[.none, .none, .bool false] }) F1 N1 h1 h2 rfl rfl
    refine wpAny_setField (N2 _ (List.mem_append_right _ (List.Mem.head _))).1 rfl (by simp) ?_
    obtain ⟨F3, N3⟩ := news_upd (f := Obj.mapFields (·.setIfInBounds 2 (.bool true))) (o' := citObj .none .none true) F2 N2 h1 h2 rfl rfl
    exact wpAny_mono (stop_next (Q := Q) hh F3 N3 he) (fun _ _ e => e.elim) (fun _ _ e => e)
theorem cit_ended {x y : Value} {Q : Option Value → Shared → Prop} (F : Fr h₀ L s.heap m) (N : News h₀ L s.heap news) (hq : (q, citObj x y true) ∈ news) (hh : A.handled = none)
    (h : ∀ h', Fr h₀ L h' m → News h₀ L h' news → Q none { s with heap := h' }) : wpAny (model prog w) A (pyNext (.ref q)) Q E s := by
  have ty := cit_type N hq
  unfold pyNext
  refine wpAny_bind (wpAny_attempt (wpAny_callSpecial?_slot (name := Str.ofString "__next__") ty slot_cit_next (wpAny_call_entry slot_cit_next ty entry_cit_next ?_ (args_cit_next _))))
  have ho := (N _ hq).1
  show wpAny _ _ (field (.ref q) 2 >>= _) _ _ s
  refine wpAny_bind (wpAny_field ho rfl (x := .bool true) rfl ?_)
  refine wpAny_ite_true rfl ?_
  refine wpAny_bind (wpAny_rule ?_)
  refine wpAny_bind ?_
  exact wpAny_mono (stop_next (Q := Q) hh F N h) (fun _ _ e => e.elim) (fun _ _ e => e)
end
end Mine
end
section
open PySem PySem.W PySem.Calls PyProof.Rows
namespace Mine
/-- the signs that part words -/
noncomputable def ws (c : Nat) : Bool := c == 10 || c == 9 || c == 13 || c == 32
/-- how many line feeds -/
noncomputable def nlA : List Nat → Int
  | [] => 0
  | c :: r => nl1 [c] + nlA r
/-- a word up to a sign that ends it, and what is behind that sign -/
noncomputable def upto (p : Nat → Bool) : List Nat → List Nat × List Nat
  | [] => ([], [])
  | [c] => if p c then ([], []) else if c = 92 then ([], []) else ([c], [])
  | c :: d :: r => if p c then ([], d :: r) else if c = 92 then (d :: (upto p r).1, (upto p r).2) else (c :: (upto p (d :: r)).1, (upto p (d :: r)).2)
/-- what get_token reads, and what is left -/
noncomputable def tokG : List Nat → List Nat × List Nat
  | [] => ([], [])
  | c :: r => if ws c then tokG r else if c = 34 then upto (· == 34) r else
      if c = 92 then (match r with | [] => ([], []) | d :: r' => (d :: (upto ws r').1, (upto ws r').2)) else (c :: (upto ws r).1, (upto ws r).2)
theorem upto_stop {p : Nat → Bool} {c : Nat} {r : List Nat} (h : p c = true) : upto p (c :: r) = ([], r) := by
  cases r <;> simp [upto, h]
theorem upto_esc0 {p : Nat → Bool} {c : Nat} (h : p c = false) (e : c = 92) : upto p [c] = ([], []) := by subst e; simp [upto, h]
theorem upto_esc {p : Nat → Bool} {c d : Nat} {r : List Nat} (h : p c = false) (e : c = 92) : upto p (c :: d :: r) = (d :: (upto p r).1, (upto p r).2) := by subst e; simp [upto, h]
theorem upto_one {p : Nat → Bool} {c : Nat} {r : List Nat} (h : p c = false) (e : ¬ c = 92) : upto p (c :: r) = (c :: (upto p r).1, (upto p r).2) := by
  cases r <;> simp [upto, h, e]
/-- what a get_token of the law's knows by name -/
noncomputable abbrev gtL (self tok fiter : Value) (ch : Option Value) : Str → Option Value := fun y =>
  if y = Str.ofString "fiter" then some fiter else if y = Str.ofString "token" then some tok else if y = Str.ofString "ch" then ch else if y = Str.ofString "self" then some self else none
theorem gtL_of {m : Str → Option Value} {self tok fiter : Value} {ch : Option Value} (h1 : m (Str.ofString "fiter") = some fiter) (h2 : m (Str.ofString "token") = some tok) (h3 : m (Str.ofString "ch") = ch) (h4 : m (Str.ofString "self") = some self)
    (h5 : ∀ y, y ≠ Str.ofString "fiter" → y ≠ Str.ofString "token" → y ≠ Str.ofString "ch" → y ≠ Str.ofString "self" → m y = none) : m = gtL self tok fiter ch := by
  funext y
  by_cases e1 : y = Str.ofString "fiter"
  · subst e1; rw [h1]; rfl
  by_cases e2 : y = Str.ofString "token"
  · subst e2; rw [h2]; rfl
  by_cases e3 : y = Str.ofString "ch"
  · subst e3; rw [h3]; rfl
  by_cases e4 : y = Str.ofString "self"
  · subst e4; rw [h4]; rfl
  rw [h5 y e1 e2 e3 e4]
  simp only [gtL, if_neg e1, if_neg e2, if_neg e3, if_neg e4]
/-- where a loop over the signs stands -/
noncomputable def CInv (w : World) (P : LexP) (g : Heap) (L' q b : Addr) (u : Tok) (x : Str) (pn : Nat) (s : Shared) (G : List Nat → List Nat → Prop) (C : Int) (n : Nat) (s' : Shared) : Prop :=
  ∃ xs tok ch t' ln' lt' sgs' sn' h' tk', s' = { s with heap := h', toks := tk' } ∧ n = xs.length ∧ G xs tok ∧ ln' + nlA xs = C ∧ xs.length ≤ 10000 ∧ tok.length + xs.length ≤ 10000 ∧ (∀ c ∈ xs, c < 1114112) ∧ StrsAre sgs' (xs.map fun k => (⟨#[k]⟩ : Str)) ∧
    Fr g L' h' (gtL (.ref P.lx) (.str ⟨tok.toArray⟩ t') (.ref q) ch) ∧ News g L' h' ((q, citObj (.ref b) (.str x u) false) :: (b, methodObj (.ref 35) (.ref P.lx)) :: lexNews w P ln' lt' #[] pn sgs'.toArray sn' [])
/-- the loop has run out of signs -/
noncomputable def CEnd (w : World) (P : LexP) (g : Heap) (L' q b : Addr) (u : Tok) (x : Str) (pn : Nat) (s : Shared) (G : List Nat → List Nat → Prop) (C : Int) (s' : Shared) : Prop :=
  ∃ tok ch t' lt' sgs' sn' h' tk', s' = { s with heap := h', toks := tk' } ∧ G [] tok ∧ tok.length ≤ 10000 ∧ StrsAre sgs' [] ∧
    Fr g L' h' (gtL (.ref P.lx) (.str ⟨tok.toArray⟩ t') (.ref q) ch) ∧ News g L' h' ((q, citObj .none .none true) :: (b, methodObj (.ref 35) (.ref P.lx)) :: lexNews w P C lt' #[] pn sgs'.toArray sn' [])
end Mine
namespace Mine
theorem apart2 {P : LexP} {b q : Addr} {o o' : Obj} (hb : @LT.lt Nat _ P.pb b) (hq : @LT.lt Nat _ b q) : Apart P [(q, o), (b, o')] := fun p hp => by
  simp only [List.mem_cons, List.not_mem_nil, or_false] at hp
  rcases hp with rfl | rfl
  · exact .inr (show @LT.lt Nat _ P.pb q by omega)
  · exact .inr hb
end Mine
namespace Mine
theorem ws_occ (c : Nat) : (Builtin.Str.occurrences (Str.ofString "\n\t\r ") ⟨#[c]⟩ 0 (Str.ofString "\n\t\r ").length 1).isEmpty = !(ws c) := by
  have h := StrLaws.found_one (Str.ofString "\n\t\r ") c
  rw [show (Str.ofString "\n\t\r ").cps.toList = [10, 9, 13, 32] from by decide +kernel] at h
  rw [Bool.not_eq_eq_eq_not.mp h]
  congr 1
  rw [Bool.eq_iff_iff, decide_eq_true_eq]
  simp only [List.mem_cons, List.not_mem_nil, or_false, ws, Bool.or_eq_true, beq_iff_eq, or_assoc]
theorem q_eq (c : Nat) : ((⟨#[c]⟩ : Str) == Str.ofString "\"") = (c == 34) := by
  rw [show Str.ofString "\"" = ⟨#[34]⟩ from by decide +kernel]
  by_cases h : c = 34
  · subst h; rfl
  · rw [beq_false_of_ne h]; exact beq_false_of_ne (fun e => h (by injection e with e; simpa using e))
theorem b_eq (c : Nat) : ((⟨#[c]⟩ : Str) == Str.ofString "\\") = (c == 92) := by
  rw [show Str.ofString "\\" = ⟨#[92]⟩ from by decide +kernel]
  by_cases h : c = 92
  · subst h; rfl
  · rw [beq_false_of_ne h]; exact beq_false_of_ne (fun e => h (by injection e with e; simpa using e))
theorem take_len {sgs : List Value} {f : Nat → Str} {r : List Nat} (_ : StrsAre sgs ((r.drop 1).map f)) : (⟨(r.take 1).toArray⟩ : Str).length ≤ 1 := by
  show (r.take 1).toArray.size ≤ 1
  rw [List.size_toArray, List.length_take]; omega
theorem tok_snoc (tok r : List Nat) : (⟨tok.toArray⟩ : Str) ++ (⟨r.toArray⟩ : Str) = ⟨(tok ++ r).toArray⟩ := by
  show (⟨tok.toArray ++ r.toArray⟩ : Str) = _
  rw [List.append_toArray]
end Mine
namespace Mine
theorem gtL_fr {g h : Heap} {L : Addr} {m : Str → Option Value} {self fiter : Value} {ch : Option Value} {x : Str} {t : Tok} {tok : List Nat} (F : Fr g L h m) (h1 : m (Str.ofString "fiter") = some fiter) (h2 : m (Str.ofString "token") = some (.str x t)) (h3 : m (Str.ofString "ch") = ch)
    (h4 : m (Str.ofString "self") = some self) (hx : x = ⟨tok.toArray⟩)
    (h5 : ∀ y, y ≠ Str.ofString "fiter" → y ≠ Str.ofString "token" → y ≠ Str.ofString "ch" → y ≠ Str.ofString "self" → m y = none) : Fr g L h (gtL self (.str ⟨tok.toArray⟩ t) fiter ch) := by
  subst hx
  rw [← gtL_of h1 h2 h3 h4 h5]; exact F
end Mine
namespace Mine
theorem tokG_ws {c : Nat} {r : List Nat} (h : ws c = true) : tokG (c :: r) = tokG r := by cases r <;> simp [tokG, h]
theorem tokG_q {c : Nat} {r : List Nat} (h : ws c = false) (e : c = 34) : tokG (c :: r) = upto (· == 34) r := by subst e; cases r <;> simp [tokG, h]
theorem tokG_esc {c : Nat} {r : List Nat} (h : ws c = false) (e : c = 92) : tokG (c :: r) = (r.take 1 ++ (upto ws (r.drop 1)).1, (upto ws (r.drop 1)).2) := by subst e; cases r <;> simp [tokG, h, upto]
theorem tokG_one {c : Nat} {r : List Nat} (h : ws c = false) (h1 : ¬ c = 34) (h2 : ¬ c = 92) : tokG (c :: r) = (c :: (upto ws r).1, (upto ws r).2) := by cases r <;> simp [tokG, h, h1, h2]
theorem upto_e {p : Nat → Bool} {c : Nat} {r : List Nat} (h : p c = false) (e : c = 92) : upto p (c :: r) = (r.take 1 ++ (upto p (r.drop 1)).1, (upto p (r.drop 1)).2) := by subst e; cases r <;> simp [upto, h]
theorem nlA_take (r : List Nat) : nlA r = nl1 (r.take 1) + nlA (r.drop 1) := by cases r <;> simp [nlA, nl1]
end Mine
namespace Mine
section
variable {w : World} {P : LexP} {g : Heap} {L' : Addr} {h : Heap} {m : Str → Option Value} {q b : Addr} {u : Tok} {x : Str} {ln : Int} {lt : Tok} {pn : Nat} {sgs : Array Value} {sn : Nat} {s : Shared}
    {G : List Nat → List Nat → Prop} {C : Int}
  {xs tok : List Nat} {ch : Option Value} {t' : Tok} {ln' : Int} {lt' : Tok} {sgs' : List Value} {sn' : Nat} {h' : Heap} {tk' : Nat}
theorem cinv_mk (hG : G xs tok) (hC : ln' + nlA xs = C) (hl : xs.length ≤ 10000) (hlt : tok.length + xs.length ≤ 10000) (hc : ∀ c ∈ xs, c < 1114112) (hy : StrsAre sgs' (xs.map fun k => (⟨#[k]⟩ : Str)))
    (F' : Fr g L' h' (gtL (.ref P.lx) (.str ⟨tok.toArray⟩ t') (.ref q) ch)) (N' : News g L' h' ((q, citObj (.ref b) (.str x u) false) :: (b, methodObj (.ref 35) (.ref P.lx)) :: lexNews w P ln' lt' #[] pn sgs'.toArray sn' [])) :
    CInv w P g L' q b u x pn s G C xs.length { s with heap := h', toks := tk' } :=
  ⟨xs, tok, ch, t', ln', lt', sgs', sn', h', tk', rfl, rfl, hG, hC, hl, hlt, hc, hy, F', N'⟩
theorem cend_mk (hG : G [] tok) (hC : ln' = C) (hlt : tok.length ≤ 10000) (hy : StrsAre sgs' [])
    (F' : Fr g L' h' (gtL (.ref P.lx) (.str ⟨tok.toArray⟩ t') (.ref q) ch)) (N' : News g L' h' ((q, citObj .none .none true) :: (b, methodObj (.ref 35) (.ref P.lx)) :: lexNews w P ln' lt' #[] pn sgs'.toArray sn' [])) :
    CEnd w P g L' q b u x pn s G C { s with heap := h', toks := tk' } :=
  ⟨tok, ch, t', lt', sgs', sn', h', tk', rfl, hG, hlt, hy, F', by rw [← hC]; exact N'⟩
end
section
variable {w : World} {P : LexP} {g : Heap} {L' : Addr} {h : Heap} {m : Str → Option Value} {q b : Addr} {u : Tok} {x : Str} {ln : Int} {lt : Tok} {pn : Nat} {sgs : Array Value} {sn : Nat}
theorem sameC (_F : Fr g L' h m) (_N : News g L' h ((q, citObj (.ref b) (.str x u) false) :: (b, methodObj (.ref 35) (.ref P.lx)) :: lexNews w P ln lt #[] pn sgs sn [])) (s : Shared) (G : List Nat → List Nat → Prop) (C : Int) {R : Prop} (k : ∀ V, Same V (CInv w P g L' q b u x pn s G C) → R) : R := k _ ⟨rfl⟩
theorem sameCE (_F : Fr g L' h m) (_N : News g L' h ((q, citObj (.ref b) (.str x u) false) :: (b, methodObj (.ref 35) (.ref P.lx)) :: lexNews w P ln lt #[] pn sgs sn [])) (s : Shared) (G G2 : List Nat → List Nat → Prop) (C : Int) {R : Prop} (k : ∀ V, Same V (fun (n : Nat) (s' : Shared) => CInv w P g L' q b u x pn s G C n s' ∨ (n = 0 ∧ CEnd w P g L' q b u x pn s G2 C s')) → R) : R := k _ ⟨rfl⟩
end
theorem drop_lt (c : Nat) (r : List Nat) : (r.drop 1).length < (c :: r).length := by rw [List.length_drop, List.length_cons]; omega
end Mine
end
section
open PySem PySem.W PySem.Calls PyProof.Rows
namespace Mine
/-- the sign that is taken, and what is left behind it -/
noncomputable def rdZ (c : Nat) (r : List Nat) : List Nat := if c = 92 then r.take 1 else [c]
noncomputable def rdR (c : Nat) (r : List Nat) : List Nat := if c = 92 then r.drop 1 else r
theorem upto_go {p : Nat → Bool} {c : Nat} {r : List Nat} (h : p c = false) : upto p (c :: r) = (rdZ c r ++ (upto p (rdR c r)).1, (upto p (rdR c r)).2) := by
  unfold rdZ rdR
  by_cases e : c = 92
  · rw [if_pos e, if_pos e]; exact upto_e h e
  · rw [if_neg e, if_neg e]; exact upto_one h e
theorem tokG_go {c : Nat} {r : List Nat} (h : ws c = false) (h1 : ¬ c = 34) : tokG (c :: r) = (rdZ c r ++ (upto ws (rdR c r)).1, (upto ws (rdR c r)).2) := by
  unfold rdZ rdR
  by_cases e : c = 92
  · rw [if_pos e, if_pos e]; exact tokG_esc h e
  · rw [if_neg e, if_neg e]; exact tokG_one h h1 e
theorem rd_lt (c : Nat) (r : List Nat) : (rdR c r).length < (c :: r).length := by
  unfold rdR; split
  · exact drop_lt c r
  · exact Nat.lt_succ_self _
theorem rd_le {c : Nat} {r : List Nat} (h : r.length ≤ 10000) : (rdR c r).length ≤ 10000 := Nat.le_trans (Nat.le_of_lt_succ (rd_lt c r)) h
theorem rd_len {c : Nat} {r tok : List Nat} (h : tok.length + (c :: r).length ≤ 10000) : (tok ++ rdZ c r).length + (rdR c r).length ≤ 10000 := by
  rw [List.length_append]; rw [List.length_cons] at h
  unfold rdZ rdR; split
  · rw [List.length_take, List.length_drop]; omega
  · rw [List.length_singleton]; omega
theorem rd_mem {c : Nat} {r : List Nat} {P : Nat → Prop} (h : ∀ k ∈ r, P k) : ∀ k ∈ rdR c r, P k := by
  unfold rdR; split
  · exact fun k hk => h k (List.mem_of_mem_drop hk)
  · exact h
/-- where the walk stands behind `if ch == '\\': ch = self._read_char()` -/
noncomputable def RdPost (w : World) (P : LexP) (g : Heap) (L' q b : Addr) (u : Tok) (x : Str) (pn : Nat) (s : Shared) (C : Int) (c : Nat) (r : List Nat) (self tok fiter : Value) (fl : Flow) (s' : Shared) : Prop :=
  fl = .next ∧ ∃ t' ln' lt' sgs' sn' h' tk', s' = { s with heap := h', toks := tk' } ∧ ln' + nlA (rdR c r) = C ∧ StrsAre sgs' ((rdR c r).map fun k => (⟨#[k]⟩ : Str)) ∧ (⟨(rdZ c r).toArray⟩ : Str).length ≤ 1 ∧
    Fr g L' h' (gtL self tok fiter (some (.str ⟨(rdZ c r).toArray⟩ t'))) ∧ News g L' h' ((q, citObj (.ref b) (.str x u) false) :: (b, methodObj (.ref 35) (.ref P.lx)) :: lexNews w P ln' lt' #[] pn sgs'.toArray sn' [])
section
variable {w : World} {P : LexP} {g : Heap} {L' q b : Addr} {u : Tok} {x : Str} {pn : Nat} {s : Shared} {C : Int} {c : Nat} {r : List Nat} {self tok fiter : Value} {t' : Tok} {ln ln' : Int} {lt' : Tok} {sgs' : List Value} {sn' : Nat} {h' : Heap} {tk' : Nat}
theorem rd_esc (e : ((⟨#[c]⟩ : Str) == Str.ofString "\\") = true) (hl : ln' = ln + nl1 (r.take 1)) (hC : ln + nlA r = C) (hy : StrsAre sgs' ((r.drop 1).map fun k => (⟨#[k]⟩ : Str)))
    (F : Fr g L' h' (gtL self tok fiter (some (.str ⟨(r.take 1).toArray⟩ t')))) (N : News g L' h' ((q, citObj (.ref b) (.str x u) false) :: (b, methodObj (.ref 35) (.ref P.lx)) :: lexNews w P ln' lt' #[] pn sgs'.toArray sn' [])) :
    RdPost w P g L' q b u x pn s C c r self tok fiter .next { s with heap := h', toks := tk' } := by
  rw [b_eq, beq_iff_eq] at e
  have e1 : rdR c r = r.drop 1 := if_pos e
  have e2 : rdZ c r = r.take 1 := if_pos e
  refine ⟨rfl, t', ln', lt', sgs', sn', h', tk', rfl, ?_, ?_, ?_, ?_, N⟩
  · rw [e1, hl, ← hC, nlA_take r]; omega
  · rw [e1]; exact hy
  · rw [e2]; exact take_len hy
  · rw [e2]; exact F
theorem rd_one (e : ((⟨#[c]⟩ : Str) == Str.ofString "\\") = false) (hC : ln' + nlA r = C) (hy : StrsAre sgs' (r.map fun k => (⟨#[k]⟩ : Str)))
    (F : Fr g L' h' (gtL self tok fiter (some (.str ⟨#[c]⟩ t')))) (N : News g L' h' ((q, citObj (.ref b) (.str x u) false) :: (b, methodObj (.ref 35) (.ref P.lx)) :: lexNews w P ln' lt' #[] pn sgs'.toArray sn' [])) :
    RdPost w P g L' q b u x pn s C c r self tok fiter .next { s with heap := h', toks := tk' } := by
  rw [b_eq, beq_eq_false_iff_ne] at e
  have e1 : rdR c r = r := if_neg e
  have e2 : rdZ c r = [c] := if_neg e
  refine ⟨rfl, t', ln', lt', sgs', sn', h', tk', rfl, ?_, ?_, ?_, ?_, N⟩
  · rw [e1]; exact hC
  · rw [e1]; exact hy
  · rw [e2]; exact Nat.le_refl 1
  · rw [e2]; exact F
end
theorem gtL_self {g h : Heap} {L : Addr} {m : Str → Option Value} {self tok fiter : Value} {ch : Option Value} (F : Fr g L h m) (h1 : m (Str.ofString "fiter") = some fiter) (h2 : m (Str.ofString "token") = some tok) (h3 : m (Str.ofString "ch") = ch)
    (h4 : m (Str.ofString "self") = some self) (h5 : ∀ y, y ≠ Str.ofString "fiter" → y ≠ Str.ofString "token" → y ≠ Str.ofString "ch" → y ≠ Str.ofString "self" → m y = none) : Fr g L h (gtL self tok fiter ch) := by
  rw [← gtL_of h1 h2 h3 h4 h5]; exact F
theorem nlA_step {C ln0 ln1 : Int} {c : Nat} {r : List Nat} (h : ln1 = ln0 + nl1 [c]) (h' : ln0 + nlA (c :: r) = C) : ln1 + nlA r = C := by
  rw [← h', h, nlA]; omega
theorem rd_join {M : Model} {A : Around} {t : Sem Flow} {Q : Flow → Shared → Prop} {E : Value → Shared → Prop} {s1 : Shared} {w : World} {P : LexP} {g : Heap} {L' q b : Addr} {u : Tok} {x : Str} {pn : Nat} {h : Heap} {m : Str → Option Value} {ln : Int} {lt : Tok} {sgs : Array Value} {sn : Nat} (_F : Fr g L' h m)
    (_N : News g L' h ((q, citObj (.ref b) (.str x u) false) :: (b, methodObj (.ref 35) (.ref P.lx)) :: lexNews w P ln lt #[] pn sgs sn [])) (s : Shared) (C : Int) (c : Nat) (r tok : List Nat) (tt : Tok)
    (h1 : ∀ R, Same R (RdPost w P g L' q b u x pn s C c r (.ref P.lx) (.str ⟨tok.toArray⟩ tt) (.ref q)) → wpAny M A t R E s1)
    (h2 : ∀ t' ln' lt' sgs' sn' h' tk', ln' + nlA (rdR c r) = C → StrsAre sgs' ((rdR c r).map fun k => (⟨#[k]⟩ : Str)) → (⟨(rdZ c r).toArray⟩ : Str).length ≤ 1 → Fr g L' h' (gtL (.ref P.lx) (.str ⟨tok.toArray⟩ tt) (.ref q) (some (.str ⟨(rdZ c r).toArray⟩ t'))) →
      News g L' h' ((q, citObj (.ref b) (.str x u) false) :: (b, methodObj (.ref 35) (.ref P.lx)) :: lexNews w P ln' lt' #[] pn sgs'.toArray sn' []) → Q .next { s with heap := h', toks := tk' }) : wpAny M A t Q E s1 := by
  refine wpAny_mono (h1 _ ⟨rfl⟩) ?_ (fun _ _ h => h)
  rintro _ _ ⟨rfl, t', ln', lt', sgs', sn', h', tk', rfl, a1, a2, a3, a4, a5⟩
  exact h2 t' ln' lt' sgs' sn' h' tk' a1 a2 a3 a4 a5
end Mine
end
section
open PySem PySem.W PySem.Calls PyProof.Rows PyProof.V
namespace Mine
theorem areOf_places : ∀ {vs : List Value} {xs : List Str}, vs.length = xs.length → (∀ (j : Nat) (v : Value), vs[j]? = some v → ∃ x t, xs[j]? = some x ∧ v = Value.str x t) → AreOf ItemKind.str vs xs
  | [], [], _, _ => .nil
  | v :: vs, x :: xs, h, hp => by
    obtain ⟨y, t, hy, rfl⟩ := hp 0 _ rfl
    have e : x = y := by simpa using hy
    subst e
    exact .cons ⟨t, rfl⟩ (areOf_places (by simpa using h) fun j v hj => hp (j + 1) v (by simpa using hj))
section
variable {prog : Program} {w : World} {A : Around} {E : Value → Shared → Prop} {s : Shared} {h₀ : Heap} {L : Addr} {m : Str → Option Value} {news : List (Addr × Obj)} {env : Env}
theorem comp_flip {cn xn : Str} {pi pc px1 px2 px3 : Pos} {spos pos : Pos} {scope : Scope} {cl : List (Str × Addr)} {d c : Addr} {o oc : Obj} {D : List (PyData × PyData)} {xs : List Str} {kf : Str → Str} {Q : Value → Shared → Prop}
    (hh : A.handled = none) (F : Fr h₀ L s.heap m) (N : News h₀ L s.heap news) (hc : (c, oc) ∈ news) (hcd : oc.data = .cell (some (.ref d))) (hd : (d, o) ∈ news) (S : DictS prog w d o D) (h0 : @LT.lt Nat _ 0 d)
    (hD : D.map (·.1) = xs.map PyData.str) (hlk : ∀ x ∈ xs, PySem.Spec.lookup (.str x) D = some (.str (kf x))) (hsz : xs.length ≤ 100)
    (hek : env.scope.kind = .function) (hec : env.kindOf cn = some .cell) (hel : env.cells.lookup cn = some c) (hnd : (cn == ("__debug__" : Str)) = false) (hndx : (xn == ("__debug__" : Str)) = false)
    (hclos : closureFor scope env = pure cl) (hcl : cl.lookup cn = some c) (hcell : ∀ y ∈ scope.names, y.2 ≠ .cell) (hkind : scope.kind = .function)
    (hnames : ∀ y ∈ scope.names, y.2 = .local → scope.names.lookup y.1 = some .local) (hx : scope.names.lookup xn = some .local)
    (hkc : ∀ C, (compEnvC scope cl C env).kindOf cn = some .cell) (hkx : ∀ C, (compEnvC scope cl C env).kindOf xn = some .local) (hkf : ∀ C, (compEnvC scope cl C env).scope.kind = .function)
    (fin : ∀ T h tk, Fr h₀ L h m → News h₀ L h news → (∀ p ∈ news, p.1 < T) → TabAt (strKind prog w) PyData.str h T (putAll PyData.str kf PyData.str xs) → Q (.ref T) { s with heap := h, toks := tk })
    (hs : ∀ x, foldedSetIterable (.Name cn pi) env x = pure x := by intro _; rfl) :
    wpAny (model prog w) A (eval (.DictComp (.Subscript (.Name cn pc) (.Name xn px1) spos) (.Name xn px2) [⟨.Name xn px3, .Name cn pi, [], 0⟩] scope pos) env) Q E s := by
  obtain ⟨lo, kvs, hdo, hf⟩ := S
  have hlen : kvs.length = xs.length := by rw [← hf.length, ← List.length_map (f := (·.1)), hD, List.length_map]
  rw [arm_eval_DictComp]
  refine wpAny_comprehension_free (use := none) rfl hs hclos hkind hnames ?_
  refine wpAny_Name (wpAny_loadName_cell hek hec hel ⟨oc, (N _ hc).1, hcd⟩ ?_) hnd
  have hdict : s.heap.DictOf (strKind prog w) d kvs := Heap.dictOf_iff.mpr ⟨o, (N _ hd).1, hdo⟩
  obtain ⟨ep, hat⟩ := hdict.dictAt
  refine wpAny_pyIter_dict lo hat ?_
  have hdlt : @LT.lt Nat _ d s.heap.objs.size := Heap.lt_size (N _ hd).1
  generalize hs1 : s.heap.push { cls := .type "dict_keyiterator", data := .fields #[.ref d, .int 0 0, .int kvs.length 0, .int ep 0] } = H1
  have z1 : H1.objs.size = s.heap.objs.size + 1 := by rw [← hs1, Heap.size_push]
  have k1 : ∀ b ob, s.heap.get? b = some ob → H1.get? b = some ob := fun b ob e => by rw [← hs1]; exact Heap.get?_push_of_some _ e
  have i1 : H1.get? s.heap.objs.size = some { cls := .type "dict_keyiterator", data := .fields #[.ref d, .int 0 0, .int kvs.length 0, .int ep 0] } := by rw [← hs1]; exact Heap.get?_push_size _ rfl
  refine wpAny_newObj_type (wpAny_newFunctionEnv hcell (by intro y hy; simp at hy) (fun h₁ hns₁ hsb₁ => ?_) hkind)
  dsimp only at hns₁ hsb₁ ⊢
  generalize hs2 : H1.push { cls := .type "dict", dict := none, data := .dict #[] } = H2 at hns₁ hsb₁ ⊢
  have z2 : H2.objs.size = s.heap.objs.size + 2 := by rw [← hs2, Heap.size_push, z1]
  have k2 : ∀ b ob, H1.get? b = some ob → h₁.get? b = some ob := fun b ob e => hsb₁.extBut b ob (fun q => by have q' : @Eq Nat b H2.objs.size := q; have t : @LT.lt Nat _ b H1.objs.size := Heap.lt_size e; omega) (Heap.get?_push_of_some _ (by rw [← hs2]; exact Heap.get?_push_of_some _ e))
  have hnew : h₁.DictOf (strKind prog w) H1.objs.size [] := by
    have q : H2.DictOf (strKind prog w) H1.objs.size [] := by rw [← hs2]; exact Heap.DictOf.new H1
    exact q.at fun ob e => hsb₁.extBut _ _ (fun x => by have x' : @Eq Nat H1.objs.size H2.objs.size := x; omega) (Heap.get?_push_of_some _ e)
  have old : ∀ b ob, s.heap.get? b = some ob → h₁.get? b = some ob := fun b ob e => k2 b ob (k1 b ob e)
  have hlt : ∀ b ob, s.heap.get? b = some ob → b ≠ H2.objs.size ∧ b ∉ [s.heap.objs.size] ∧ b ≠ H1.objs.size := fun b ob e => by
    have q : @LT.lt Nat _ b s.heap.objs.size := Heap.lt_size e
    refine ⟨fun x => ?_, fun x => ?_, fun x => ?_⟩
    · have x' : @Eq Nat b H2.objs.size := x
      omega
    · have x' : @Eq Nat b s.heap.objs.size := List.mem_singleton.mp x
      omega
    · have x' : @Eq Nat b H1.objs.size := x
      omega
  have W := (Walks.dictKeys (A := A) (knd := strKind prog w) hh s.heap.objs.size d (fun e => by have e' : @Eq Nat d s.heap.objs.size := e; omega) kvs ep).weaken (P' := fun i v => ∃ x t, xs[i]? = some x ∧ v = Value.str x t) (by
    rintro i v ⟨k, xv, hx, hkey⟩
    obtain ⟨dv, hDi, _⟩ := hf.at hx
    obtain ⟨t, rfl⟩ := Value.isStrOf_shape hkey
    refine ⟨k, t, ?_, rfl⟩
    have e1 := congrArg (fun l => l[i]?) hD
    simp only [List.getElem?_map, hDi, Option.map_some] at e1
    cases hxi : xs[i]? with
    | none => rw [hxi] at e1; cases e1
    | some y => rw [hxi] at e1; simp only [Option.map_some, Option.some.injEq] at e1; cases e1; rfl)
  have st : (fun i h => h.IsKeyIter s.heap.objs.size d i kvs.length ep ∧ h.DictAt (strKind prog w) d kvs ep) 0 h₁ :=
    ⟨⟨_, k2 _ _ i1, rfl, rfl⟩, hat.at' fun ob e => old _ ob e⟩
  have nameX : ∀ {s₃ : Shared} {m₃ : Str → Option Value} {x : Str} {t : Tok} {p : Pos} {Q' : Value → Shared → Prop} {E' : Value → Shared → Prop}, s₃.heap.Ns (compEnvC scope cl H2.objs.size env).locals m₃ → m₃ xn = some (.str x t) → Q' (.str x t) s₃ → wpAny (model prog w) A (eval (.Name xn p) (compEnvC scope cl H2.objs.size env)) Q' E' s₃ :=
    fun n3 hx3 q3 => wpAny_Name (wpAny_loadName_local (hkf _) (hkx _) n3 hx3 q3) hndx
  have loop : codeAny (model prog w) A (.compLoop (.DictComp (.Subscript (.Name cn pc) (.Name xn px1) spos) (.Name xn px2) [⟨.Name xn px3, .Name cn pi, [], 0⟩] scope pos) 0 (.ref s.heap.objs.size) (.ref H1.objs.size) (compEnvC scope cl H2.objs.size env))
      (compPost (model prog w) A E none Q (.ref H1.objs.size) H2.objs.size) { s with heap := h₁, toks := s.toks + ([] : List (Str × Value)).length } := by
    refine codeAny_compLoop_walkD (knd := strKind prog w) (cenv := compEnvC scope cl H2.objs.size env) W (fun _ => true) (fun v k => ∃ a, ItemKind.str.is a v ∧ k = kf a) (fun v y => ∃ a, ItemKind.str.is a v ∧ Carried y (PyData.str a)) (hkx _) ?_ ?_ ?_ ?_ st hnew hns₁ ?_ ?_ ?_ ?_ ?_
    · rw [hkf]; rfl
    · intro e; have e' : @Eq Nat H1.objs.size H2.objs.size := e; omega
    · intro e
      rcases List.mem_cons.mp e with e | e
      · have e' : @Eq Nat H1.objs.size s.heap.objs.size := e; omega
      · have e' : @Eq Nat H1.objs.size d := List.mem_singleton.mp e; omega
    · intro e
      rcases List.mem_cons.mp e with e | e
      · have e' : @Eq Nat H2.objs.size s.heap.objs.size := e; omega
      · have e' : @Eq Nat H2.objs.size d := List.mem_singleton.mp e; omega
    · intro i v s₃ m₃ hv hn hm hk
      exact wpAny_pure ⟨rfl, s₃.heap, s₃.toks, rfl, fun _ _ e => e⟩
    · rintro i v s₃ m₃ ⟨x, t, hxi, rfl⟩ - hn hm hk
      have up : ∀ b ob, s.heap.get? b = some ob → s₃.heap.get? b = some ob := fun b ob e => let ⟨a1, a2, a3⟩ := hlt b ob e; hk b ob a1 a2 a3 (old b ob e)
      have hl := hlk x (List.mem_of_getElem? hxi)
      obtain ⟨v, hv, hfl⟩ := hf.of_lookup (fun a b => by first | rfl | (simp [PySem.Spec.same]; done)) hl
      obtain ⟨t', rfl⟩ := hfl.str_inv
      have N3 : News h₀ L s₃.heap [(d, o)] := fun p hp => by rw [List.mem_singleton.mp hp]; exact ⟨up _ _ (N _ hd).1, (N _ hd).2⟩
      refine wpAny_Subscript_Name_late ?_
      refine wpAny_Name (wpAny_loadName_cell (hkf _) (hkc _) hcl ⟨oc, up _ _ (N _ hc).1, hcd⟩ ?_) hnd
      refine nameX hn hm ?_
      refine ⟨"dict", _, slot_dict_getitem.lookup, (Heap.DictOf.typeIs (Heap.dictOf_iff.mpr ⟨o, up _ _ (N _ hd).1, hdo⟩)), ?_⟩
      refine kdt_getItem N3 (.head _) hdo (k := x) ?_ hv ⟨⟨kf x, ?_, x, ⟨t, rfl⟩, rfl⟩, s₃.heap, _, rfl, fun _ _ e => e⟩
      · simp [PySem.strKind, Value.isStrOf]
      · simp [PySem.strKind, Value.isStrOf]
    · rintro i v s₃ m₃ ⟨x, t, hxi, rfl⟩ - hn hm hk
      exact nameX hn hm ⟨⟨x, ⟨t, rfl⟩, .str _ _⟩, s₃.heap, s₃.toks, rfl, fun _ _ e => e⟩
    · intro h' tk m' kvs' vs hn hd' hl hp hS hk
      refine ⟨m', hn, fun h'' hs'' => ?_⟩
      have up : ∀ b ob, s.heap.get? b = some ob → h''.get? b = some ob := fun b ob e => let ⟨a1, a2, a3⟩ := hlt b ob e; hs''.extBut b ob a1 (hk b ob a1 a2 a3 (old b ob e))
      rw [List.filter_eq_self.mpr (fun _ _ => rfl)] at hS
      refine fin _ h'' tk (F.keeps up) (N.grown up) (fun p hp => ?_) ⟨?_, kvs', hd'.extBut hs''.extBut (fun e => ?_), storedAll_flat (fun a b => by first | rfl | (simp [PySem.Spec.same]; done)) hS xs (areOf_places (hl.trans hlen) hp)⟩
      · have q : @LT.lt Nat _ p.1 s.heap.objs.size := Heap.lt_size (N p hp).1
        show @LT.lt Nat _ p.1 H1.objs.size
        omega
      · rw [beq_eq_false_iff_ne]
        intro e
        have e' : @Eq Nat H1.objs.size 1 := e
        omega
      · have e' : @Eq Nat H1.objs.size H2.objs.size := e
        omega
    · rw [hlen, PySem.sizeLine_eq]; omega
  exact codeAny_compStart_dict loop (W.self 0 _ _ _ st loop)
end
end Mine
end
section
open PySem PySem.W PySem.Calls PyProof.Rows PyProof.V
namespace Mine
/-- an iterator over a list -/
noncomputable def ItIs (o : Obj) (l : Addr) (i : Nat) : Prop := o.cls = .type "list_iterator" ∧ o.data = .fields #[.ref l, .int i 0]
section
variable {prog : Program} {w : World} {A : Around} {E : Value → Shared → Prop} {s : Shared} {h₀ : Heap} {L I l : Addr} {m : Str → Option Value} {news rest : List (Addr × Obj)} {items : Array Value} {n i : Nat} {oI : Obj} {x : Value}
theorem iterL {Q : Value → Shared → Prop} (F : Fr h₀ L s.heap m) (N : News h₀ L s.heap news) (hl : (l, listOf items n) ∈ news)
    (h : ∀ I oI h', ItIs oI l 0 → Fr h₀ L h' m → News h₀ L h' ((I, oI) :: news) → (∀ p ∈ news, p.1 < I) → Q (.ref I) { s with heap := h' }) : wpAny (model prog w) A (pyIter (.ref l)) Q E s :=
  wpAny_pyIter_list (N.isList hl) (h _ _ _ ⟨rfl, rfl⟩ (F.push _) (News.push F N _ rfl) (fun p hp => Heap.lt_size (N p hp).1))
theorem nextL {Q : Option Value → Shared → Prop} (F : Fr h₀ L s.heap m) (N : News h₀ L s.heap ((I, oI) :: rest)) (off : ∀ p ∈ rest, p.1 ≠ I) (hi : ItIs oI l i) (hl : (l, listOf items n) ∈ rest) (hx : items[i]? = some x)
    (h : ∀ h' oI', ItIs oI' l (i + 1) → Fr h₀ L h' m → News h₀ L h' ((I, oI') :: rest) → Q (some x) { s with heap := h' }) : wpAny (model prog w) A (pyNext (.ref I)) Q E s := by
  refine wpAny_pyNext_list_item (l := l) (i := i) ⟨oI, (N _ (.head _)).1, hi.1, hi.2⟩ (N.isList (.tail _ hl)) hx fun h' hit hs => ?_
  obtain ⟨o', ho', hc, hd⟩ := hit
  have D := N _ (.head _)
  refine h h' o' ⟨hc, hd⟩ (F.change hs D.2.1 D.2.2) fun p hp => ?_
  rcases List.mem_cons.mp hp with rfl | hp
  · exact ⟨ho', D.2⟩
  · exact ⟨(hs.2 p.1 (off p hp)).trans (N p (.tail _ hp)).1, (N p (.tail _ hp)).2⟩
theorem endL {Q : Option Value → Shared → Prop} (F : Fr h₀ L s.heap m) (N : News h₀ L s.heap ((I, oI) :: rest)) (off : ∀ p ∈ rest, p.1 ≠ I) (hi : ItIs oI l i) (hl : (l, listOf items n) ∈ rest) (hx : items[i]? = none) (hh : A.handled = none)
    (h : ∀ h', Fr h₀ L h' m → News h₀ L h' rest → Q none { s with heap := h' }) : wpAny (model prog w) A (pyNext (.ref I)) Q E s := by
  refine wpAny_pyNext_list_end (l := l) (i := i) hh ⟨oI, (N _ (.head _)).1, hi.1, hi.2⟩ (N.isList (.tail _ hl)) hx fun h' he => ?_
  have D := N _ (.head _)
  refine h h' ⟨?_, fun b o e => he b o (fun q => ?_) (F.keep b o e), F.above⟩ fun p hp => ⟨he _ _ (off p hp) (N p (.tail _ hp)).1, (N p (.tail _ hp)).2⟩
  · obtain ⟨oL, a1, a2, hoL, a3⟩ := F.ns
    exact ⟨oL, a1, a2, he _ _ (Ne.symm D.2.1) hoL, a3⟩
  · have q' := D.2.2
    rw [show (I, oI).1 = b from q.symm, e] at q'
    cases q'
end
/-- a table of escapes turned over -/
noncomputable def flipD (k : Nat) : List (PyData × PyData) := putAll PyData.str (fun x => fm (spell k) x) PyData.str ((tabs.getD k []).map fun e => (⟨#[e.1]⟩ : Str))
noncomputable def mergeN : Nat → List (PyData × PyData)
  | 0 => []
  | i + 1 => ktMergeD (mergeN i) (flipD i)
/-- what each reference is read as -/
noncomputable def refsL : List (List Nat × Nat) := [("&amp;", 38), ("&lt;", 60), ("&gt;", 62), ("&quot;", 34), ("&#13;", 13), ("&#10;", 10), ("&#09;", 9), ("&#xD;", 13), ("&#xA;", 10), ("&#x9;", 9)].map fun e => (e.1.toList.map Char.toNat, e.2)
theorem mergeN5 : mergeN 5 = refsL.map fun e => (PyData.str ⟨e.1.toArray⟩, PyData.str ⟨#[e.2]⟩) := by kernel_rfl
@[reducible] noncomputable def keysN (k : Nat) : List Str := (tabs.getD k []).map fun e => (⟨#[e.1]⟩ : Str)
theorem flip_keys (k : Nat) : (tabD k).map (·.1) = (keysN k).map PyData.str := by
  unfold tabD keysN
  rw [List.map_map, List.map_map]; rfl
theorem flip_lk {k : Nat} (hk : k < 5) : ∀ x ∈ keysN k, PySem.Spec.lookup (.str x) (tabD k) = some (.str (fm (spell k) x)) := by
  have h : ∀ k < 5, (keysN k).all (fun x => match PySem.Spec.lookup (.str x) (tabD k) with | some (.str y) => y == fm (spell k) x | _ => false) = true := by decide +kernel
  intro x hx
  have q := List.all_eq_true.mp (h k hk) x hx
  split at q
  · rename_i y e
    rw [e, beq_iff_eq.mp q]
  · cases q
theorem flip_len {k : Nat} (hk : k < 5) : (keysN k).length ≤ 100 := (by decide +kernel : ∀ k < 5, (keysN k).length ≤ 100) k hk
theorem merge_sz {k : Nat} (hk : k < 5) : (mergeN k).length + (flipD k).length ≤ sizeLine := by
  rw [PySem.sizeLine_eq]
  exact Nat.le_trans ((by decide +kernel : ∀ k < 5, (mergeN k).length + (flipD k).length ≤ 100) k hk) (by decide)
end Mine
end
section
open PySem PySem.W PySem.Calls PyProof.Rows PyProof.V
namespace Mine
/-- a sign that no operator is -/
noncomputable def big (k : Nat) : Bool := decide (256 ≤ numL [k])
/-- what a reference is read as; a question mark for none -/
noncomputable def refOf (l : List Nat) : List Nat := match refsL.lookup l with | some k => [k] | none => [63]
/-- a writing opened -/
noncomputable def openF : Nat → List Nat → List Nat
  | 0, _ => []
  | _ + 1, [] => []
  | f + 1, c :: r =>
    if numL [c] = 19 then
      (if numL ((r.drop (r.takeWhile big).length).take 1) = 13 then refOf (c :: (r.takeWhile big ++ (r.drop (r.takeWhile big).length).take 1)) else [63]) ++ openF f (r.drop ((r.takeWhile big).length + 1))
    else c :: openF f r
noncomputable def openL (l : List Nat) : List Nat := openF l.length l
theorem openF_fuel : ∀ (f : Nat) (l : List Nat), l.length ≤ f → openF f l = openL l := by
  have key : ∀ (n f : Nat) (l : List Nat), l.length ≤ n → l.length ≤ f → openF f l = openF n l := by
    intro n
    induction n with
    | zero =>
      intro f l h1 h2
      have : l = [] := List.length_eq_zero_iff.mp (by omega)
      subst this
      cases f <;> rfl
    | succ n ih =>
      intro f l h1 h2
      cases l with
      | nil => cases f <;> rfl
      | cons c r =>
        rw [List.length_cons] at h1 h2
        cases f with
        | zero => omega
        | succ f =>
          unfold openF
          rw [ih f (r.drop ((r.takeWhile big).length + 1)) (by rw [List.length_drop]; omega) (by rw [List.length_drop]; omega), ih f r (by omega) (by omega)]
  intro f l h
  exact key l.length f l (Nat.le_refl _) h
theorem openL_nil : openL [] = [] := rfl
theorem openL_amp {c : Nat} {r : List Nat} (h : numL [c] = 19) : openL (c :: r) =
    (if numL ((r.drop (r.takeWhile big).length).take 1) = 13 then refOf (c :: (r.takeWhile big ++ (r.drop (r.takeWhile big).length).take 1)) else [63]) ++ openL (r.drop ((r.takeWhile big).length + 1)) := by
  show openF (r.length + 1) (c :: r) = _
  unfold openF
  rw [if_pos h, openF_fuel _ _ (by rw [List.length_drop]; omega)]
theorem openL_one {c : Nat} {r : List Nat} (h : ¬ numL [c] = 19) : openL (c :: r) = c :: openL r := by
  show openF (r.length + 1) (c :: r) = _
  unfold openF
  rw [if_neg h, openF_fuel _ _ (Nat.le_refl _)]
/-- what _law_opened knows by name -/
noncomputable abbrev opL (word signs text at_ : Value) (end_ : Option Value) : Str → Option Value := fun y =>
  if y = Str.ofString "end" then end_ else if y = Str.ofString "at" then some at_ else if y = Str.ofString "text" then some text else if y = Str.ofString "signs" then some signs else if y = Str.ofString "word" then some word else none
theorem opL_of {m : Str → Option Value} {word signs text at_ : Value} {end_ : Option Value} (h1 : m (Str.ofString "end") = end_) (h2 : m (Str.ofString "at") = some at_) (h3 : m (Str.ofString "text") = some text) (h4 : m (Str.ofString "signs") = some signs) (h6 : m (Str.ofString "word") = some word)
    (h5 : ∀ y, y ≠ Str.ofString "end" → y ≠ Str.ofString "at" → y ≠ Str.ofString "text" → y ≠ Str.ofString "signs" → y ≠ Str.ofString "word" → m y = none) : m = opL word signs text at_ end_ := by
  funext y
  by_cases e1 : y = Str.ofString "end"
  · subst e1; rw [h1]; rfl
  by_cases e2 : y = Str.ofString "at"
  · subst e2; rw [h2]; rfl
  by_cases e3 : y = Str.ofString "text"
  · subst e3; rw [h3]; rfl
  by_cases e4 : y = Str.ofString "signs"
  · subst e4; rw [h4]; rfl
  by_cases e6 : y = Str.ofString "word"
  · subst e6; rw [h6]; rfl
  rw [h5 y e1 e2 e3 e4 e6]
  simp only [opL, if_neg e1, if_neg e2, if_neg e3, if_neg e4, if_neg e6]
/-- where the loop over a word stands -/
noncomputable def WInv {g : Heap} {L' : Addr} {h : Heap} {m : Str → Option Value} {D : Addr} {oD : Obj} (s : Shared) (_F : Fr g L' h m) (_N : News g L' h [(D, oD)]) (x : Str) (t : Tok) (n : Nat) (s' : Shared) : Prop :=
  ∃ (a : Nat) (txt : List Nat) (e : Option Value) (t1 t2 : Tok) (h' : Heap) (tk' : Tok), s' = { s with heap := h', toks := tk' } ∧ a ≤ x.length + 1 ∧ n = x.length + 1 - a ∧ txt ++ openL (x.cps.toList.drop a) = openL x.cps.toList ∧ txt.length ≤ a ∧
    Fr g L' h' (opL (.str x t) (.ref D) (.str ⟨txt.toArray⟩ t1) (.int (a : Int) t2) e) ∧ News g L' h' [(D, oD)]
/-- where the loop within a reference stands -/
noncomputable def VInv {g : Heap} {L' : Addr} {h : Heap} {m : Str → Option Value} {D : Addr} {oD : Obj} (s : Shared) (_F : Fr g L' h m) (_N : News g L' h [(D, oD)]) (x : Str) (t : Tok) (a : Nat) (txt : List Nat) (n : Nat) (s' : Shared) : Prop :=
  ∃ (e : Nat) (t1 t2 t3 : Tok) (h' : Heap) (tk' : Tok), s' = { s with heap := h', toks := tk' } ∧ a + 1 ≤ e ∧ e ≤ x.length ∧ n = x.length - e ∧ e + ((x.cps.toList.drop e).takeWhile big).length = a + 1 + ((x.cps.toList.drop (a + 1)).takeWhile big).length ∧
    Fr g L' h' (opL (.str x t) (.ref D) (.str ⟨txt.toArray⟩ t1) (.int (a : Int) t2) (some (.int (e : Int) t3))) ∧ News g L' h' [(D, oD)]
end Mine
namespace Mine
theorem opL_fr {g h : Heap} {L : Addr} {m : Str → Option Value} {word signs : Value} {eo : Option Value} {y : Str} {txt : List Nat} {z : Int} {a : Nat} {t1 t2 : Tok} (F : Fr g L h m) (h1 : m (Str.ofString "end") = eo) (h2 : m (Str.ofString "at") = some (.int z t2)) (h3 : m (Str.ofString "text") = some (.str y t1))
    (h4 : m (Str.ofString "signs") = some signs) (h6 : m (Str.ofString "word") = some word) (hz : z = (a : Int)) (hy : y = ⟨txt.toArray⟩)
    (h5 : ∀ y, y ≠ Str.ofString "end" → y ≠ Str.ofString "at" → y ≠ Str.ofString "text" → y ≠ Str.ofString "signs" → y ≠ Str.ofString "word" → m y = none) : Fr g L h (opL word signs (.str ⟨txt.toArray⟩ t1) (.int (a : Int) t2) eo) := by
  subst hz hy
  rw [← opL_of h1 h2 h3 h4 h6 h5]; exact F
theorem opL_fr2 {g h : Heap} {L : Addr} {m : Str → Option Value} {word signs : Value} {y : Str} {txt : List Nat} {z z2 : Int} {a e : Nat} {t1 t2 t3 : Tok} (F : Fr g L h m) (h1 : m (Str.ofString "end") = some (.int z2 t3)) (h2 : m (Str.ofString "at") = some (.int z t2)) (h3 : m (Str.ofString "text") = some (.str y t1))
    (h4 : m (Str.ofString "signs") = some signs) (h6 : m (Str.ofString "word") = some word) (hz2 : z2 = (e : Int)) (hz : z = (a : Int)) (hy : y = ⟨txt.toArray⟩)
    (h5 : ∀ y, y ≠ Str.ofString "end" → y ≠ Str.ofString "at" → y ≠ Str.ofString "text" → y ≠ Str.ofString "signs" → y ≠ Str.ofString "word" → m y = none) : Fr g L h (opL word signs (.str ⟨txt.toArray⟩ t1) (.int (a : Int) t2) (some (.int (e : Int) t3))) := by
  subst hz hy hz2
  rw [← opL_of h1 h2 h3 h4 h6 h5]; exact F
theorem item_drop (x : Str) (a : Nat) (h : a < x.length) : ∃ c, x.cps.toList.drop a = c :: x.cps.toList.drop (a + 1) ∧ Txt.item x (a : Int) = ⟨#[c]⟩ := by
  have hl : a < x.cps.toList.length := by rw [Array.length_toList]; exact h
  refine ⟨x.cps.toList[a], (List.drop_eq_getElem_cons hl), item_meets (by omega) ?_⟩
  rw [Int.toNat_natCast, ← Array.getElem?_toList, List.getElem?_eq_getElem hl]
theorem slice_nat (x : Str) (i j : Nat) (h : i ≤ j) (hi : i ≤ x.length) : Txt.slice x (some (i : Int)) (some (j : Int)) = ⟨((x.cps.toList.drop i).take (j - i)).toArray⟩ := by
  by_cases hj : j ≤ x.length
  · have e := beq_iff_eq.mp (slice_closesL (x := x) (i := (i : Int)) (j := (j : Int)) (by omega) (by omega) (by omega))
    rw [e, Int.toNat_natCast, show ((j : Int) - (i : Int)).toNat = j - i from by omega]
  · have e1 : PySem.Builtin.Str.strSliceIndices (some (i : Int)) (some (j : Int)) 1 x.length = PySem.Builtin.Str.strSliceIndices (some (i : Int)) (some (x.length : Int)) 1 x.length := by
      have h0 : ¬ (j : Int) < 0 := by omega
      have h1 : ¬ ((x.length : Int) < 0) := by omega
      have h2 : (1 : Int) > 0 := by decide
      simp only [PySem.Builtin.Str.strSliceIndices, h0, h1, h2, if_false, if_true, Int.min_eq_right (show (x.length : Int) ≤ (j : Int) by omega), Int.min_self]
    have e2 : Txt.slice x (some (i : Int)) (some (j : Int)) = Txt.slice x (some (i : Int)) (some (x.length : Int)) := by
      unfold Txt.slice
      rw [e1]
    have e := beq_iff_eq.mp (slice_closesL (x := x) (i := (i : Int)) (j := (x.length : Int)) (by omega) (by omega) (by omega))
    rw [e2, e, Int.toNat_natCast, show ((x.length : Int) - (i : Int)).toNat = x.length - i from by omega]
    have hl : (x.cps.toList.drop i).length = x.length - i := by rw [List.length_drop, Array.length_toList]; rfl
    rw [List.take_of_length_le (by omega), List.take_of_length_le (by omega)]
theorem tw_take (p : Nat → Bool) : ∀ r : List Nat, r.take (r.takeWhile p).length = r.takeWhile p
  | [] => rfl
  | c :: r => by
    rw [List.takeWhile_cons]
    cases p c with
    | true => simp [tw_take p r]
    | false => rfl
theorem amp_facts (x : Str) {a e c : Nat} (hc : x.cps.toList.drop a = c :: x.cps.toList.drop (a + 1)) (hE : e + ((x.cps.toList.drop e).takeWhile big).length = a + 1 + ((x.cps.toList.drop (a + 1)).takeWhile big).length)
    (hx : (x.cps.toList.drop e).takeWhile big = []) (ha : a < x.length) (he : e ≤ x.length) (hn : numL [c] = 19) :
    openL (x.cps.toList.drop a) = (if numL (Txt.slice x (some ((e : Int) + 1 - 1)) (some ((e : Int) + 1))).cps.toList = 13 then refOf (Txt.slice x (some (a : Int)) (some ((e : Int) + 1))).cps.toList else [63]) ++ openL (x.cps.toList.drop (e + 1)) := by
  rw [hx, List.length_nil, Nat.add_zero] at hE
  rw [hc, openL_amp hn, show (e : Int) + 1 - 1 = ((e : Nat) : Int) from by omega, show (e : Int) + 1 = ((e + 1 : Nat) : Int) from by omega, slice_nat x e (e + 1) (by omega) he, slice_nat x a (e + 1) (by omega) (by omega), hc]
  generalize hr : x.cps.toList.drop (a + 1) = r at hE ⊢
  have d1 : x.cps.toList.drop e = r.drop (r.takeWhile big).length := by rw [hE, ← List.drop_drop, hr]
  have d2 : x.cps.toList.drop (e + 1) = r.drop ((r.takeWhile big).length + 1) := by rw [← List.drop_drop, d1, List.drop_drop]
  have d3 : (c :: r).take (e + 1 - a) = c :: (r.takeWhile big ++ (r.drop (r.takeWhile big).length).take 1) := by
    rw [show e + 1 - a = ((r.takeWhile big).length + 1) + 1 from by omega, List.take_succ_cons, List.take_add, tw_take]
  rw [d1, d2, d3, show e + 1 - e = 1 from by omega]
theorem ref_flat {v : Value} {y : Str} (h : Flat v ((PySem.Spec.lookup (.str y) (mergeN 5)).getD (.str (Str.ofString "?")))) : (∃ t, v = .str ⟨(refOf y.cps.toList).toArray⟩ t) ∧ (⟨(refOf y.cps.toList).toArray⟩ : Str).length ≤ 1 := by
  rw [mergeN5, lookup_strs (fun k => PyData.str ⟨#[k]⟩) y refsL] at h
  unfold refOf
  cases hq : refsL.lookup y.cps.toList with
  | none =>
    rw [hq] at h
    obtain ⟨t, e⟩ := Flat.str_inv h
    exact ⟨⟨t, by rw [e, show Str.ofString "?" = ⟨#[63]⟩ from by decide +kernel]⟩, Nat.le_refl _⟩
  | some k => rw [hq] at h; exact ⟨Flat.str_inv h, Nat.le_refl _⟩
theorem tw_not {x : Str} {e : Nat} (h : e < x.length) (hn : ¬ 256 ≤ numL (Txt.item x (e : Int)).cps.toList) : (x.cps.toList.drop e).takeWhile big = [] := by
  obtain ⟨d, h1, h2⟩ := item_drop x e h
  rw [h2] at hn
  rw [h1, List.takeWhile_cons, show big d = false from decide_eq_false hn]; rfl
theorem tw_big {x : Str} {e : Nat} (h : e < x.length) (hn : 256 ≤ numL (Txt.item x (e : Int)).cps.toList) : ((x.cps.toList.drop e).takeWhile big).length = ((x.cps.toList.drop (e + 1)).takeWhile big).length + 1 := by
  obtain ⟨d, h1, h2⟩ := item_drop x e h
  rw [h2] at hn
  rw [h1, List.takeWhile_cons, show big d = true from decide_eq_true hn]; rfl
theorem tw_end {x : Str} {e : Nat} (h : x.length ≤ e) : (x.cps.toList.drop e).takeWhile big = [] := by
  rw [List.drop_eq_nil_of_le (by rw [Array.length_toList]; exact h)]; rfl
end Mine
namespace Mine
theorem ref_len (l : List Nat) : (refOf l).length = 1 := by unfold refOf; split <;> rfl
end Mine
end
section
open PySem PySem.W PySem.Calls PyProof.Rows
namespace Mine
theorem winv_mk {g : Heap} {L' : Addr} {h : Heap} {m : Str → Option Value} {D : Addr} {oD : Obj} {s s' : Shared} {F : Fr g L' h m} {N : News g L' h [(D, oD)]} {x : Str} {t : Tok} {n : Nat} {I : Nat → Shared → Prop} (hI : Same I (WInv s F N x t)) {a e : Nat} {txt z : List Nat} {eo : Option Value} {t1 t2 : Tok} {h' : Heap} {tk' : Tok}
    (hn : n = x.length + 1 - a) (hax : a < x.length) (ht : txt.length ≤ a) (he : a ≤ e) (he' : e ≤ x.length) (hz : z.length ≤ 1) (hG : (txt ++ z) ++ openL (x.cps.toList.drop (e + 1)) = openL x.cps.toList) (hs : s' = { s with heap := h', toks := tk' })
    (F' : Fr g L' h' (opL (.str x t) (.ref D) (.str ⟨(txt ++ z).toArray⟩ t1) (.int ((e + 1 : Nat) : Int) t2) eo)) (N' : News g L' h' [(D, oD)]) : ∃ k, k < n ∧ I k s' :=
  ⟨x.length + 1 - (e + 1), by omega, hI.of2 ⟨e + 1, txt ++ z, eo, t1, t2, h', tk', hs, by omega, rfl, hG, by rw [List.length_append]; omega, F', N'⟩⟩
theorem vinv_mk {g : Heap} {L' : Addr} {h : Heap} {m : Str → Option Value} {D : Addr} {oD : Obj} {s s' : Shared} {F : Fr g L' h m} {N : News g L' h [(D, oD)]} {x : Str} {t : Tok} {n a e : Nat} {txt : List Nat} {I : Nat → Shared → Prop} (hI : Same I (VInv s F N x t a txt)) {t1 t2 t3 : Tok} {h' : Heap} {tk' : Tok}
    (hn : n = x.length - e) (hax : e < x.length) (he : a + 1 ≤ e) (hE : e + ((x.cps.toList.drop e).takeWhile big).length = a + 1 + ((x.cps.toList.drop (a + 1)).takeWhile big).length) (hb : 256 ≤ numL (Txt.item x (e : Int)).cps.toList) (hs : s' = { s with heap := h', toks := tk' })
    (F' : Fr g L' h' (opL (.str x t) (.ref D) (.str ⟨txt.toArray⟩ t1) (.int (a : Int) t2) (some (.int ((e + 1 : Nat) : Int) t3)))) (N' : News g L' h' [(D, oD)]) : ∃ k, k < n ∧ I k s' :=
  ⟨x.length - (e + 1), by omega, hI.of2 ⟨e + 1, t1, t2, t3, h', tk', hs, by omega, by omega, rfl, by have := tw_big hax hb; omega, F', N'⟩⟩
theorem one_le (c : Nat) : [c].length ≤ 1 := Nat.le_refl _
end Mine
end
section
open PySem PySem.W PySem.Calls PyProof.Rows PyProof.V
namespace Mine
@[reducible] noncomputable def strS (l : List Nat) : Str := ⟨l.toArray⟩
/-- the empty word -/
noncomputable def eofW (w : List Nat) : Bool := decide ((if w = [] then (0 : Int) else numL (w.take 1)) = 0)
/-- a writing that is to be opened -/
noncomputable def ampW (w : List Nat) : Bool := decide (numL (w.take 2) ≠ 41) && decide (numL (w.take 1) = 19)
/-- the next word, what is left of the line, and of the signs -/
noncomputable def nextW (pb : List (List Nat)) (xs : List Nat) : List Nat × List (List Nat) × List Nat := match pb with | y :: r => (y, r, xs) | [] => ((tokG xs).1, [], (tokG xs).2)
/-- the words that the turns read -/
noncomputable def turnsG : Nat → List (List Nat) → List Nat → List (List Nat) × List (List Nat) × List Nat
  | 0, pb, xs => ([], pb, xs)
  | n + 1, pb, xs => if eofW (nextW pb xs).1 then ([(nextW pb xs).1], (nextW pb xs).2.1, (nextW pb xs).2.2) else
      let t := turnsG n (if ampW (nextW pb xs).1 then (nextW pb xs).2.1 ++ [openL (nextW pb xs).1] else (nextW pb xs).2.1) (nextW pb xs).2.2
      ((nextW pb xs).1 :: t.1, t.2.1, t.2.2)
theorem turnsG_eof {n : Nat} {pb : List (List Nat)} {xs : List Nat} (h : eofW (nextW pb xs).1 = true) : turnsG (n + 1) pb xs = ([(nextW pb xs).1], (nextW pb xs).2.1, (nextW pb xs).2.2) := by
  rw [turnsG, if_pos h]
theorem turnsG_amp {n : Nat} {pb : List (List Nat)} {xs : List Nat} (h : eofW (nextW pb xs).1 = false) (h2 : ampW (nextW pb xs).1 = true) : turnsG (n + 1) pb xs =
    ((nextW pb xs).1 :: (turnsG n ((nextW pb xs).2.1 ++ [openL (nextW pb xs).1]) (nextW pb xs).2.2).1, (turnsG n ((nextW pb xs).2.1 ++ [openL (nextW pb xs).1]) (nextW pb xs).2.2).2) := by
  rw [turnsG, if_neg (by rw [h]; exact Bool.false_ne_true), if_pos h2]
theorem turnsG_no {n : Nat} {pb : List (List Nat)} {xs : List Nat} (h : eofW (nextW pb xs).1 = false) (h2 : ampW (nextW pb xs).1 = false) : turnsG (n + 1) pb xs =
    ((nextW pb xs).1 :: (turnsG n (nextW pb xs).2.1 (nextW pb xs).2.2).1, (turnsG n (nextW pb xs).2.1 (nextW pb xs).2.2).2) := by
  rw [turnsG, if_neg (by rw [h]; exact Bool.false_ne_true), if_neg (by rw [h2]; exact Bool.false_ne_true)]
theorem upto_len (p : Nat → Bool) : ∀ l : List Nat, (upto p l).1.length + (upto p l).2.length ≤ l.length
  | [] => by simp [upto]
  | [c] => by unfold upto; split <;> (try split) <;> simp
  | c :: d :: r => by
    have h1 := upto_len p r
    have h2 := upto_len p (d :: r)
    unfold upto
    split
    · simp
    · split
      · simp only [List.length_cons] at *; omega
      · simp only [List.length_cons] at *; omega
theorem tokG_len : ∀ l : List Nat, (tokG l).1.length + (tokG l).2.length ≤ l.length
  | [] => by simp [tokG]
  | c :: r => by
    have h := tokG_len r
    by_cases h1 : ws c = true
    · rw [tokG_ws h1]; simp only [List.length_cons]; omega
    have h1 : ws c = false := by simpa using h1
    by_cases h2 : c = 34
    · rw [tokG_q h1 h2]; have := upto_len (· == 34) r; simp only [List.length_cons]; omega
    by_cases h3 : c = 92
    · rw [tokG_esc h1 h3]
      have := upto_len ws (r.drop 1)
      simp only [List.length_append, List.length_cons, List.length_take, List.length_drop] at *
      omega
    · rw [tokG_one h1 h2 h3]; have := upto_len ws r; simp only [List.length_cons]; omega
theorem upto_sub (p : Nat → Bool) : ∀ (l : List Nat), ∀ c ∈ (upto p l).2, c ∈ l
  | [] => by simp [upto]
  | [c] => by unfold upto; split <;> (try split) <;> simp
  | c :: d :: r => by
    have h1 := upto_sub p r
    have h2 := upto_sub p (d :: r)
    unfold upto
    split
    · exact fun x hx => .tail _ hx
    · split
      · exact fun x hx => .tail _ (.tail _ (h1 x hx))
      · exact fun x hx => .tail _ (h2 x hx)
theorem tokG_sub : ∀ (l : List Nat), ∀ c ∈ (tokG l).2, c ∈ l
  | [] => by simp [tokG]
  | c :: r => by
    have h := tokG_sub r
    by_cases h1 : ws c = true
    · rw [tokG_ws h1]; exact fun x hx => .tail _ (h x hx)
    have h1 : ws c = false := by simpa using h1
    by_cases h2 : c = 34
    · rw [tokG_q h1 h2]; exact fun x hx => .tail _ (upto_sub _ r x hx)
    by_cases h3 : c = 92
    · rw [tokG_esc h1 h3]; exact fun x hx => .tail _ (List.mem_of_mem_drop (upto_sub _ _ x hx))
    · rw [tokG_one h1 h2 h3]; exact fun x hx => .tail _ (upto_sub _ r x hx)
theorem openL_len : ∀ (n : Nat) (l : List Nat), l.length ≤ n → (openL l).length ≤ l.length := by
  intro n
  induction n with
  | zero => intro l h; have : l = [] := List.length_eq_zero_iff.mp (by omega); subst this; simp [openL_nil]
  | succ n ih =>
    intro l h
    cases l with
    | nil => simp [openL_nil]
    | cons c r =>
      rw [List.length_cons] at h
      by_cases hn : numL [c] = 19
      · rw [openL_amp hn]
        have := ih (r.drop ((r.takeWhile big).length + 1)) (by rw [List.length_drop]; omega)
        rw [List.length_drop] at this
        rw [List.length_append, List.length_cons]
        split
        · rw [ref_len]; omega
        · simp only [List.length_cons, List.length_nil]; omega
      · rw [openL_one hn]; have := ih r (by omega); simp only [List.length_cons]; omega
section
variable {prog : Program} {w : World} {A : Around} {E : Value → Shared → Prop} {s : Shared} {h₀ : Heap} {L I : Addr} {m : Str → Option Value} {rest : List (Addr × Obj)} {i n : Nat}
theorem nextR {Q : Option Value → Shared → Prop} (hh : A.handled = none) (F : Fr h₀ L s.heap m) (N : News h₀ L s.heap ((I, W.itR (i : Int) ((n : Int) - (i : Int))) :: rest)) (off : ∀ p ∈ rest, p.1 ≠ I) (hi : i < n)
    (h : ∀ t h' tk, Fr h₀ L h' m → News h₀ L h' ((I, W.itR ((i + 1 : Nat) : Int) ((n : Int) - ((i + 1 : Nat) : Int))) :: rest) → Q (some (.int (i : Int) t)) { s with heap := h', toks := tk }) : wpAny (model prog w) A (pyNext (.ref I)) Q E s := by
  have D := N _ (.head _)
  have st : IsRangeIter s.heap I (0 + (i : Nat) * 1) ((n : Int) - (i : Nat)) 1 := by
    rw [Int.mul_one, Int.zero_add]; exact D.1
  refine (Walks.range hh I 0 1 n).item i s Q E hi st fun v h' tk hP hst hk => ?_
  obtain ⟨t, rfl⟩ := hP
  have up : ∀ b o, b ≠ I → s.heap.get? b = some o → h'.get? b = some o := fun b o hb e => hk b o (fun q => hb (List.mem_singleton.mp q)) e
  rw [Int.mul_one, Int.zero_add] at hst ⊢
  refine h t h' tk ⟨?_, fun b o e => up b o (fun q => ?_) (F.keep b o e), F.above⟩ fun p hp => ?_
  · obtain ⟨oL, a1, a2, hoL, a3⟩ := F.ns
    exact ⟨oL, a1, a2, up _ _ (Ne.symm D.2.1) hoL, a3⟩
  · have q' := D.2.2
    rw [show (I, W.itR (i : Int) ((n : Int) - (i : Int))).1 = b from q.symm, e] at q'
    cases q'
  · rcases List.mem_cons.mp hp with rfl | hp
    · exact ⟨hst, D.2⟩
    · exact ⟨up _ _ (off p hp) (N p (.tail _ hp)).1, (N p (.tail _ hp)).2⟩
theorem endR {Q : Option Value → Shared → Prop} (hh : A.handled = none) (F : Fr h₀ L s.heap m) (N : News h₀ L s.heap ((I, W.itR (n : Int) ((n : Int) - (n : Int))) :: rest)) (off : ∀ p ∈ rest, p.1 ≠ I)
    (h : ∀ h' tk, Fr h₀ L h' m → News h₀ L h' rest → Q none { s with heap := h', toks := tk }) : wpAny (model prog w) A (pyNext (.ref I)) Q E s := by
  have D := N _ (.head _)
  have st : IsRangeIter s.heap I (0 + (n : Nat) * 1) ((n : Int) - (n : Nat)) 1 := by
    rw [Int.mul_one, Int.zero_add]; exact D.1
  refine (Walks.range hh I 0 1 n).done s Q E st fun h' tk hk => ?_
  have up : ∀ b o, b ≠ I → s.heap.get? b = some o → h'.get? b = some o := fun b o hb e => hk b o (fun q => hb (List.mem_singleton.mp q)) e
  refine h h' tk ⟨?_, fun b o e => up b o (fun q => ?_) (F.keep b o e), F.above⟩ fun p hp => ⟨up _ _ (off p hp) (N p (.tail _ hp)).1, (N p (.tail _ hp)).2⟩
  · obtain ⟨oL, a1, a2, hoL, a3⟩ := F.ns
    exact ⟨oL, a1, a2, up _ _ (Ne.symm D.2.1) hoL, a3⟩
  · have q' := D.2.2
    rw [show (I, W.itR (n : Int) ((n : Int) - (n : Int))).1 = b from q.symm, e] at q'
    cases q'
end
end Mine
namespace Mine
theorem nextW_len {pb : List (List Nat)} {xs : List Nat} (hl : xs.length ≤ 10000) (hw : ∀ y ∈ pb, y.length ≤ 10000) : (strS (nextW pb xs).1).length ≤ 10000 := by
  show (nextW pb xs).1.toArray.size ≤ 10000
  rw [List.size_toArray]
  cases pb with
  | nil => have := tokG_len xs; show (tokG xs).1.length ≤ 10000; omega
  | cons y r => exact hw y (.head _)
theorem nextW_rest {pb : List (List Nat)} {xs : List Nat} (hl : xs.length ≤ 10000) : (nextW pb xs).2.2.length ≤ 10000 := by
  cases pb with
  | nil => have := tokG_len xs; show (tokG xs).2.length ≤ 10000; omega
  | cons y r => exact hl
theorem nextW_sub {pb : List (List Nat)} {xs : List Nat} (hc : ∀ c ∈ xs, c < 1114112) : ∀ c ∈ (nextW pb xs).2.2, c < 1114112 := by
  cases pb with
  | nil => exact fun c h => hc c (tokG_sub xs c h)
  | cons y r => exact hc
theorem nextW_pb {pb : List (List Nat)} {xs : List Nat} (hw : ∀ y ∈ pb, y.length ≤ 10000) : (∀ y ∈ (nextW pb xs).2.1, y.length ≤ 10000) ∧ (nextW pb xs).2.1.length ≤ pb.length := by
  cases pb with
  | nil => exact ⟨fun _ h => (nomatch h), Nat.le_refl _⟩
  | cons y r => exact ⟨fun z h => hw z (.tail _ h), by show r.length ≤ _; rw [List.length_cons]; omega⟩
/-- what _law_turns knows by name -/
noncomputable abbrev tuL (lexer seen : Value) (k word : Option Value) : Str → Option Value := fun y =>
  if y = Str.ofString "word" then word else if y = Str.ofString "k" then k else if y = Str.ofString "seen" then some seen else if y = Str.ofString "lexer" then some lexer else none
theorem tuL_fr {g h : Heap} {L : Addr} {m : Str → Option Value} {lexer seen : Value} {k word : Option Value} (F : Fr g L h m) (h1 : m (Str.ofString "word") = word) (h2 : m (Str.ofString "k") = k) (h3 : m (Str.ofString "seen") = some seen) (h4 : m (Str.ofString "lexer") = some lexer)
    (h5 : ∀ y, y ≠ Str.ofString "word" → y ≠ Str.ofString "k" → y ≠ Str.ofString "seen" → y ≠ Str.ofString "lexer" → m y = none) : Fr g L h (tuL lexer seen k word) := by
  have e : m = tuL lexer seen k word := by
    funext y
    by_cases e1 : y = Str.ofString "word"
    · subst e1; rw [h1]; rfl
    by_cases e2 : y = Str.ofString "k"
    · subst e2; rw [h2]; rfl
    by_cases e3 : y = Str.ofString "seen"
    · subst e3; rw [h3]; rfl
    by_cases e4 : y = Str.ofString "lexer"
    · subst e4; rw [h4]; rfl
    rw [h5 y e1 e2 e3 e4]
    simp only [tuL, if_neg e1, if_neg e2, if_neg e3, if_neg e4]
  rw [← e]; exact F
/-- where the turns stand -/
noncomputable def TInv (w : World) (P : LexP) (g : Heap) (L' I l : Addr) (s : Shared) (T : List (List Nat) × List (List Nat) × List Nat) (C : Int) (n : Nat) (s' : Shared) : Prop :=
  ∃ (i : Nat) (ws pb : List (List Nat)) (xs : List Nat) (ln' : Int) (lt' : Tok) (vs : List Value) (nl : Nat) (pbs' : List Value) (pn' : Nat) (sgs' : List Value) (sn' : Nat) (kv wv : Option Value) (h' : Heap) (tk' : Tok), s' = { s with heap := h', toks := tk' } ∧ i ≤ 10 ∧ n = 10 - i ∧
    (ws ++ (turnsG (10 - i) pb xs).1, (turnsG (10 - i) pb xs).2) = T ∧ ws.length = i ∧ ln' + nlA xs = C ∧ xs.length ≤ 10000 ∧ (∀ c ∈ xs, c < 1114112) ∧ (∀ y ∈ pb, y.length ≤ 10000) ∧ pb.length < 900 + i ∧
    StrsAre vs (ws.map strS) ∧ StrsAre pbs' (pb.map strS) ∧ StrsAre sgs' (xs.map fun k => (⟨#[k]⟩ : Str)) ∧ Fr g L' h' (tuL (.ref P.lx) (.ref l) kv wv) ∧
    News g L' h' ((I, W.itR (i : Int) ((10 : Nat) - (i : Int))) :: (l, listOf vs.toArray nl) :: lexNews w P ln' lt' pbs'.toArray pn' sgs'.toArray sn' [])
theorem slice_first (l : List Nat) (k : Nat) : (Txt.slice (strS l) none (some (k : Int))).cps.toList = l.take k := by
  have e : Txt.slice (strS l) none (some (k : Int)) = Txt.slice (strS l) (some ((0 : Nat) : Int)) (some (k : Int)) := by
    have h0 : max (0 : Int) (min 0 ((strS l).length : Int)) = 0 := by omega
    unfold Txt.slice PySem.Builtin.Str.strSliceIndices
    simp [h0]
  rw [e, slice_nat (strS l) 0 k (by omega) (by omega)]
  simp
end Mine
namespace Mine
theorem iterR {prog : Program} {w : World} {A : Around} {E : Value → Shared → Prop} {s : Shared} {h₀ : Heap} {L r : Addr} {m : Str → Option Value} {news : List (Addr × Obj)} {t u v : Tok} {Q : Value → Shared → Prop} (hr : IsRange s.heap r 0 10 1 t u v) (F : Fr h₀ L s.heap m) (N : News h₀ L s.heap news)
    (h : ∀ I h', Fr h₀ L h' m → News h₀ L h' ((I, W.itR ((0 : Nat) : Int) ((10 : Nat) - ((0 : Nat) : Int))) :: news) → (∀ p ∈ news, p.1 < I) → Q (.ref I) { s with heap := h' }) : wpAny (model prog w) A (pyIter (.ref r)) Q E s :=
  wpAny_pyIter_range hr (by decide) (h _ _ (F.push _) (News.push F N _ rfl) (fun p hp => Heap.lt_size (N p hp).1))
end Mine
namespace Mine
theorem slice1 (l : List Nat) : (Txt.slice (strS l) none (some 1)).cps.toList = l.take 1 := slice_first l 1
theorem slice2 (l : List Nat) : (Txt.slice (strS l) none (some 2)).cps.toList = l.take 2 := slice_first l 2
theorem strS_nil {w : List Nat} : (strS w == Str.ofString "") = decide (w = []) := by
  rw [show Str.ofString "" = ⟨#[]⟩ from by decide +kernel]
  cases w with
  | nil => rfl
  | cons c r => rw [decide_eq_false (by simp)]; exact beq_false_of_ne (fun e => by injection e with e; simp at e)
theorem word_eof1 {w : List Nat} (h : (strS w == Str.ofString "") = true) : eofW w = true := by
  rw [strS_nil, decide_eq_true_eq] at h
  subst h; rfl
theorem word_eof2 {w : List Nat} (h : (strS w == Str.ofString "") = false) (h2 : numL (Txt.slice (strS w) none (some 1)).cps.toList = 0) : eofW w = true := by
  rw [strS_nil, decide_eq_false_iff_not] at h
  rw [slice1] at h2
  rw [eofW, if_neg h, h2]; rfl
theorem word_go {w : List Nat} (h : (strS w == Str.ofString "") = false) (h2 : ¬ numL (Txt.slice (strS w) none (some 1)).cps.toList = 0) : eofW w = false := by
  rw [strS_nil, decide_eq_false_iff_not] at h
  rw [slice1] at h2
  rw [eofW, if_neg h, decide_eq_false h2]
theorem word_amp {w : List Nat} (h1 : numL (Txt.slice (strS w) none (some 2)).cps.toList ≠ 41) (h2 : numL (Txt.slice (strS w) none (some 1)).cps.toList = 19) : ampW w = true := by
  rw [slice2] at h1; rw [slice1] at h2
  rw [ampW, decide_eq_true h1, decide_eq_true h2]; rfl
theorem word_no1 {w : List Nat} (h2 : numL (Txt.slice (strS w) none (some 1)).cps.toList ≠ 19) : ampW w = false := by
  rw [slice1] at h2
  rw [ampW, decide_eq_false h2, Bool.and_false]
theorem word_no2 {w : List Nat} (h1 : numL (Txt.slice (strS w) none (some 2)).cps.toList = 41) : ampW w = false := by
  rw [slice2] at h1
  rw [ampW, decide_eq_false (by rw [h1]; simp), Bool.false_and]
theorem turn_on {i : Nat} {ws pb pb' : List (List Nat)} {xs : List Nat} {T : List (List Nat) × List (List Nat) × List Nat} (hi : i < 10) (hT : (ws ++ (turnsG (10 - i) pb xs).1, (turnsG (10 - i) pb xs).2) = T) (he : eofW (nextW pb xs).1 = false)
    (hp : pb' = if ampW (nextW pb xs).1 then (nextW pb xs).2.1 ++ [openL (nextW pb xs).1] else (nextW pb xs).2.1) :
    ((ws ++ [(nextW pb xs).1]) ++ (turnsG (10 - (i + 1)) pb' (nextW pb xs).2.2).1, (turnsG (10 - (i + 1)) pb' (nextW pb xs).2.2).2) = T := by
  rw [show 10 - i = (10 - (i + 1)) + 1 from by omega] at hT
  rw [← hT, hp]
  cases ha : ampW (nextW pb xs).1 with
  | true => rw [turnsG_amp he ha]; simp
  | false => rw [turnsG_no he ha]; simp
theorem turn_end {i : Nat} {ws pb : List (List Nat)} {xs : List Nat} {T : List (List Nat) × List (List Nat) × List Nat} (hi : i < 10) (hT : (ws ++ (turnsG (10 - i) pb xs).1, (turnsG (10 - i) pb xs).2) = T) (he : eofW (nextW pb xs).1 = true) :
    (ws ++ [(nextW pb xs).1], (nextW pb xs).2.1, (nextW pb xs).2.2) = T := by
  rw [show 10 - i = (10 - (i + 1)) + 1 from by omega, turnsG_eof he] at hT
  exact hT
theorem snoc_push (vs : List Value) (v : Value) : vs.toArray.push v = (vs ++ [v]).toArray := by simp
section
variable {w : World} {P : LexP} {g : Heap} {L' : Addr} {h : Heap} {m : Str → Option Value} {I l : Addr} {it : Obj} {n0 : Nat} {ln : Int} {lt : Tok} {pbs : Array Value} {pn : Nat} {sgs : Array Value} {sn : Nat} {s : Shared}
    {V : Nat → Shared → Prop} {T : List (List Nat) × List (List Nat) × List Nat} {C : Int}
    {i : Nat} {ws pb : List (List Nat)} {xs : List Nat} {ln' : Int} {lt' : Tok} {vs : List Value} {v : Value} {nl : Nat} {pbs' : List Value} {pn' : Nat} {sgs' : List Value} {sn' : Nat} {kv wv : Option Value} {h' : Heap} {tk' : Tok}
theorem sameT {m : Str → Option Value} {h : Heap} {it : Obj} {n0 : Nat} {lt : Tok} {pbs : Array Value} {pn : Nat} {sgs : Array Value} {sn : Nat} {ln : Int} (s : Shared) (_F : Fr g L' h m) (_N : News g L' h ((I, it) :: (l, listOf #[] n0) :: lexNews w P ln lt pbs pn sgs sn [])) (T : List (List Nat) × List (List Nat) × List Nat) (C : Int) {R : Prop} (k : ∀ V, Same V (TInv w P g L' I l s T C) → R) : R := k _ ⟨rfl⟩
theorem tinv_mk (hV : Same V (TInv w P g L' I l s T C)) (hi : i < 10) (hT : (ws ++ (turnsG (10 - (i + 1)) pb xs).1, (turnsG (10 - (i + 1)) pb xs).2) = T) (hwl : ws.length = i + 1) (hC : ln' + nlA xs = C) (hl : xs.length ≤ 10000) (hc : ∀ c ∈ xs, c < 1114112) (hw : ∀ y ∈ pb, y.length ≤ 10000) (hp : pb.length < 900 + (i + 1))
    (hv : StrsAre (vs ++ [v]) (ws.map strS)) (hpb : StrsAre pbs' (pb.map strS)) (hy : StrsAre sgs' (xs.map fun k => (⟨#[k]⟩ : Str))) (F : Fr g L' h' (tuL (.ref P.lx) (.ref l) kv wv))
    (N : News g L' h' ((I, W.itR ((i + 1 : Nat) : Int) ((10 : Nat) - ((i + 1 : Nat) : Int))) :: (l, listOf (vs ++ [v]).toArray nl) :: lexNews w P ln' lt' pbs'.toArray pn' sgs'.toArray sn' [])) :
    ∃ k, k < 10 - i ∧ V k { s with heap := h', toks := tk' } :=
  ⟨10 - (i + 1), by omega, hV.of2 ⟨i + 1, ws, pb, xs, ln', lt', vs ++ [v], nl, pbs', pn', sgs', sn', kv, wv, h', tk', rfl, hi, rfl, hT, hwl, hC, hl, hc, hw, hp, hv, hpb, hy, F, N⟩⟩
end
end Mine
namespace Mine
theorem pb_bound {pb : List (List Nat)} {w : List Nat} (z6 : ∀ y ∈ pb, y.length ≤ 10000) (z9 : (strS w).length ≤ 10000) : ∀ y ∈ pb ++ [openL w], y.length ≤ 10000 := by
  intro y hy
  rcases List.mem_append.mp hy with h | h
  · exact z6 y h
  · rw [List.mem_singleton.mp h]
    have h1 := openL_len _ w (Nat.le_refl _)
    have h2 : w.toArray.size ≤ 10000 := z9
    rw [List.size_toArray] at h2
    omega
theorem strs_snocS {vs : List Value} {ws : List (List Nat)} {w : List Nat} {t : Tok} (hv : StrsAre vs (ws.map strS)) : StrsAre (vs ++ [.str (strS w) t]) ((ws ++ [w]).map strS) := by
  rw [List.map_append]; exact strs_snoc hv
theorem news_cons {h₀ h : Heap} {L : Addr} {x : Addr × Obj} {a b : List (Addr × Obj)} (N : News h₀ L h a) (hx : x ∈ a) (M : News h₀ L h b) : News h₀ L h (x :: b) := fun p hp => by
  rcases List.mem_cons.mp hp with rfl | hp
  · exact N _ hx
  · exact M p hp
end Mine
end
section
open PySem PySem.W PySem.Calls PyProof.Rows PyProof.V
namespace Mine
/-- an enumeration of a list, at its i-th place -/
noncomputable def EnSt (h : Heap) (e it l : Addr) (i : Nat) (items : Array Value) : Prop := (∃ old, IsEnum h e it i old) ∧ h.IsListIter it l i ∧ h.IsList l items
section
variable {prog : Program} {w : World} {A : Around} {E : Value → Shared → Prop} {s : Shared} {h₀ : Heap} {L e it l : Addr} {m : Str → Option Value} {news : List (Addr × Obj)} {items : Array Value} {i n : Nat}
theorem enumN {Q : Value → Shared → Prop} (F : Fr h₀ L s.heap m) (N : News h₀ L s.heap news) (hl : (l, listOf items n) ∈ news)
    (h : ∀ e it h', EnSt h' e it l 0 items → (∀ p ∈ news, p.1 < it) → @LT.lt Nat _ L it → @LT.lt Nat _ it e → Fr h₀ L h' m → News h₀ L h' news → Q (.ref e) { s with heap := h' }) : wpAny (model prog w) A (call (.type "enumerate") [.ref l]) Q E s :=
  call_enumerate_list (N.isList hl) fun h' hE hit hz hk => h _ _ h' ⟨⟨_, hE⟩, hit, (N.grown hk).isList hl⟩ (fun p hp => Heap.lt_size (N p hp).1) F.ns.lt (Nat.lt_succ_self _) (F.keeps hk) (N.grown hk)
theorem enum_iter {Q : Value → Shared → Prop} (st : EnSt s.heap e it l i items) (h : Q (.ref e) s) : wpAny (model prog w) A (pyIter (.ref e)) Q E s :=
  let ⟨_, he⟩ := st.1; wpAny_pyIter_enum he h
theorem enum_next {Q : Option Value → Shared → Prop} {x : Value} (hh : A.handled = none) (F : Fr h₀ L s.heap m) (N : News h₀ L s.heap news) (st : EnSt s.heap e it l i items) (hL : @LT.lt Nat _ L it) (he : @LT.lt Nat _ it e) (hle : @LT.lt Nat _ l it)
    (off : ∀ p ∈ news, p.1 < it) (h0 : h₀.objs.size ≤ it) (hx : items[i]? = some x)
    (h : ∀ T t h1 tk1, (∀ (elts : List Expr) (k : Nat) (pos : Pos) (Q' : Unit → Shared → Prop) (E' : Value → Shared → Prop), (∀ h', EnSt h' e it l (i + 1) items → IsTup h' T #[.int (i : Int) t, x] → Fr h₀ L h' m → News h₀ L h' news → Q' () { s with heap := h', toks := tk1 }) →
        wpAny (model prog w) A (letOwnedTupleGo (.Tuple elts k pos) (.ref e) (.ref T)) Q' E' { s with heap := h1, toks := tk1 }) → Q (some (.ref T)) { s with heap := h1, toks := tk1 }) :
    wpAny (model prog w) A (pyNext (.ref e)) Q E s := by
  have W := WalksT.enumerate (prog := prog) (w := w) hh e it l (fun q => by have q' : @Eq Nat e it := q; omega) (fun q => by have q' : @Eq Nat l e := q; omega) (fun q => by have q' : @Eq Nat l it := q; omega) items
  have hi : i < items.size := by
    rcases Nat.lt_or_ge i items.size with q | q
    · exact q
    · rw [Array.getElem?_eq_none q] at hx; cases hx
  have nw : ∀ b, @LT.lt Nat _ b it → b ∉ [e, it] := fun b q hm => by
    rcases List.mem_cons.mp hm with q' | hm
    · have q'' : @Eq Nat b e := q'; omega
    · have q'' : @Eq Nat b it := List.mem_singleton.mp hm; omega
  refine W.item i s _ E hi st fun T vals h' tk hP hT hTup mid hk => ?_
  obtain ⟨t, y, hy, rfl⟩ := hP
  have e1 : y = x := by rw [hx] at hy; exact (Option.some.inj hy).symm
  subst e1
  refine h T t h' tk fun elts k pos Q' E' fin => W.go elts k pos i T _ Q' E' mid fun h'' st'' hk'' => ?_
  have up : ∀ b o, @LT.lt Nat _ b it → s.heap.get? b = some o → h''.get? b = some o := fun b o q x => hk'' b o (nw b q) (hk b o (nw b q) x)
  refine fin h'' st'' ?_ ⟨?_, fun b o q => up b o (Nat.lt_of_lt_of_le (Heap.lt_size q) h0) (F.keep b o q), F.above⟩ fun p hp => ⟨up _ _ (off p hp) (N p hp).1, (N p hp).2⟩
  · obtain ⟨o, ho, r⟩ := hTup
    exact ⟨o, hk'' _ _ (W.apart i T h' mid) ho, r⟩
  · obtain ⟨oL, a1, a2, hoL, a3⟩ := F.ns
    exact ⟨oL, a1, a2, up _ _ hL hoL, a3⟩
theorem enum_end {Q : Option Value → Shared → Prop} (hh : A.handled = none) (F : Fr h₀ L s.heap m) (N : News h₀ L s.heap news) (st : EnSt s.heap e it l items.size items) (hL : @LT.lt Nat _ L it) (he : @LT.lt Nat _ it e) (hle : @LT.lt Nat _ l it)
    (off : ∀ p ∈ news, p.1 < it) (h0 : h₀.objs.size ≤ it) (h : ∀ h' tk, Fr h₀ L h' m → News h₀ L h' news → Q none { s with heap := h', toks := tk }) : wpAny (model prog w) A (pyNext (.ref e)) Q E s := by
  have W := WalksT.enumerate (prog := prog) (w := w) hh e it l (fun q => by have q' : @Eq Nat e it := q; omega) (fun q => by have q' : @Eq Nat l e := q; omega) (fun q => by have q' : @Eq Nat l it := q; omega) items
  have nw : ∀ b, @LT.lt Nat _ b it → b ∉ [e, it] := fun b q hm => by
    rcases List.mem_cons.mp hm with q' | hm
    · have q'' : @Eq Nat b e := q'; omega
    · have q'' : @Eq Nat b it := List.mem_singleton.mp hm; omega
  refine W.done s Q E st fun h' tk hk => ?_
  have up : ∀ b o, @LT.lt Nat _ b it → s.heap.get? b = some o → h'.get? b = some o := fun b o q x => hk b o (nw b q) x
  refine h h' tk ⟨?_, fun b o q => up b o (Nat.lt_of_lt_of_le (Heap.lt_size q) h0) (F.keep b o q), F.above⟩ fun p hp => ⟨up _ _ (off p hp) (N p hp).1, (N p hp).2⟩
  obtain ⟨oL, a1, a2, hoL, a3⟩ := F.ns
  exact ⟨oL, a1, a2, up _ _ hL hoL, a3⟩
end
end Mine
namespace Mine
/-- the object of an enumeration at its i-th place -/
noncomputable def EnOb (o : Obj) (e it : Addr) (i : Nat) : Prop := ∀ h : Heap, h.get? e = some o → ∃ old, IsEnum h e it i old
theorem enob_of {h : Heap} {e it : Addr} {i : Nat} {old : Value} (q : IsEnum h e it i old) : ∃ o, h.get? e = some o ∧ EnOb o e it i := ⟨_, q, fun _ z => ⟨old, z⟩⟩
section
variable {prog : Program} {w : World} {A : Around} {E : Value → Shared → Prop} {s : Shared} {h₀ : Heap} {L e it l : Addr} {m : Str → Option Value} {news : List (Addr × Obj)} {items : Array Value} {i n : Nat} {oe oi : Obj}
theorem ensT {hp0 : Heap} (N : News h₀ L hp0 ((e, oe) :: (it, oi) :: news)) (he : EnOb oe e it i) (hi : ItIs oi l i) (hl : (l, listOf items n) ∈ news) : EnSt hp0 e it l i items :=
  ⟨he _ (N _ (.head _)).1, ⟨oi, (N _ (.tail _ (.head _))).1, hi.1, hi.2⟩, N.isList (.tail _ (.tail _ hl))⟩
theorem ensN {hp0 h' : Heap} {j : Nat} (N : News h₀ L hp0 ((e, oe) :: (it, oi) :: news)) (st : EnSt h' e it l j items) (M : News h₀ L h' news) : ∃ oe' oi', EnOb oe' e it j ∧ ItIs oi' l j ∧ News h₀ L h' ((e, oe') :: (it, oi') :: news) := by
  obtain ⟨⟨old, hE⟩, ⟨oi', hoi, hc, hd⟩, _⟩ := st
  obtain ⟨oe', ho, hb⟩ := enob_of hE
  refine ⟨oe', oi', hb, ⟨hc, hd⟩, fun p hp => ?_⟩
  rcases List.mem_cons.mp hp with rfl | hp
  · exact ⟨ho, (N _ (.head _)).2⟩
  rcases List.mem_cons.mp hp with rfl | hp
  · exact ⟨hoi, (N _ (.tail _ (.head _))).2⟩
  · exact M p hp
end
end Mine
end
section
open PySem PySem.W PySem.Calls PyProof.Rows PyProof.V
namespace Mine
/-- what the law knows by name in its first loop -/
noncomputable abbrev laL (script cells : Value) (k x : Option Value) : Str → Option Value := fun y =>
  if y = Str.ofString "x" then x else if y = Str.ofString "k" then k else if y = Str.ofString "cells" then some cells else if y = Str.ofString "script" then some script else none
theorem laL_fr {g h : Heap} {L : Addr} {m : Str → Option Value} {script cells : Value} {k x : Option Value} (F : Fr g L h m) (h1 : m (Str.ofString "x") = x) (h2 : m (Str.ofString "k") = k) (h3 : m (Str.ofString "cells") = some cells) (h4 : m (Str.ofString "script") = some script)
    (h5 : ∀ y, y ≠ Str.ofString "x" → y ≠ Str.ofString "k" → y ≠ Str.ofString "cells" → y ≠ Str.ofString "script" → m y = none) : Fr g L h (laL script cells k x) := by
  have e : m = laL script cells k x := by
    funext y
    by_cases e1 : y = Str.ofString "x"
    · subst e1; rw [h1]; rfl
    by_cases e2 : y = Str.ofString "k"
    · subst e2; rw [h2]; rfl
    by_cases e3 : y = Str.ofString "cells"
    · subst e3; rw [h3]; rfl
    by_cases e4 : y = Str.ofString "script"
    · subst e4; rw [h4]; rfl
    rw [h5 y e1 e2 e3 e4]
    simp only [laL, if_neg e1, if_neg e2, if_neg e3, if_neg e4]
  rw [← e]; exact F
/-- where the law's first loop stands: six ints, whatever they are -/
noncomputable def EInv {g : Heap} {L' : Addr} {h : Heap} {m : Str → Option Value} {D lc : Addr} {items cs0 : Array Value} {n nc : Nat} {rest : List (Addr × Obj)} {s : Shared} (_F : Fr g L' h m) (_N : News g L' h ((D, listOf items n) :: (lc, listOf cs0 nc) :: rest)) {e it : Addr} (_st : EnSt h e it D 0 items) {ts : List (Addr × Addr)} {sv : Addr} {its : Array Value} (_hS : (ghostOf s.heap ts).IsList sv its) (k : Nat) (s' : Shared) : Prop :=
  ∃ (oe oi : Obj) (i : Nat) (cs : List Int) (vs : List Value) (nl : Nat) (kv xv : Option Value) (h' : Heap) (tk' : Tok), s' = { s with heap := h', toks := tk' } ∧ i ≤ items.size ∧ k = items.size - i ∧ cs.length = 6 ∧ IntsAre vs cs ∧ EnOb oe e it i ∧ ItIs oi D i ∧
    Fr g L' h' (laL (.ref sv) (.ref lc) kv xv) ∧ News g L' h' ((e, oe) :: (it, oi) :: (D, listOf items n) :: (lc, listOf vs.toArray nl) :: rest)
/-- the length of what is enumerated -/
noncomputable def szOf {h : Heap} {e it l : Addr} {i : Nat} {items : Array Value} (_ : EnSt h e it l i items) : Nat := items.size
end Mine
namespace Mine
theorem ints_get : ∀ {vs : List Value} {xs : List Int}, IntsAre vs xs → ∀ {i : Nat}, i < vs.toArray.size → ∃ z t, vs.toArray[i]? = some (.int z t)
  | _, _, .nil, _, h => absurd h (Nat.not_lt_zero _)
  | _, _, .cons z t _, 0, _ => ⟨z, t, rfl⟩
  | _, _, .cons z t r, i + 1, h => by
    obtain ⟨y, u, e⟩ := ints_get r (i := i) (by simpa using h)
    exact ⟨y, u, by simpa using e⟩
theorem all_lt {it : Addr} : ∀ {l : List (Addr × Obj)} {l' : List (Addr × Obj)}, l.map (·.1) = l'.map (·.1) → (∀ p ∈ l, p.1 < it) → ∀ p ∈ l', p.1 < it := fun {l l'} e h p hp => by
  have : p.1 ∈ l.map (·.1) := by rw [e]; exact List.mem_map_of_mem hp
  obtain ⟨q, hq, e'⟩ := List.mem_map.mp this
  rw [← e']; exact h q hq
end Mine
end
section
open PySem PySem.W PySem.Calls PyProof.Rows PyProof.V
namespace Mine
/-- a reference at the head of a writing is opened -/
theorem open_ref {body rest : List Nat} (hb : body.all big = true) : openL (38 :: (body ++ 59 :: rest)) = refOf (38 :: (body ++ [59])) ++ openL rest := by
  have e1 : (body ++ 59 :: rest).takeWhile big = body := by
    induction body with
    | nil => rw [List.nil_append, List.takeWhile_cons, show big 59 = false from by decide +kernel]; rfl
    | cons c r ih =>
      rw [List.all_cons, Bool.and_eq_true] at hb
      rw [List.cons_append, List.takeWhile_cons, hb.1, if_pos rfl, ih hb.2]
  have e2 : (body ++ 59 :: rest).drop body.length = 59 :: rest := by simp
  have e3 : (body ++ 59 :: rest).drop (body.length + 1) = rest := by
    rw [← List.drop_drop, e2]; rfl
  rw [openL_amp (by decide +kernel), e1, e2, e3]
  rw [show (59 :: rest).take 1 = [59] from rfl, if_pos (by decide +kernel)]
theorem num_amp {a : Nat} (h : a ≠ 38) : numL [a] ≠ 19 := by
  intro e
  have key : ∀ T : List (List Nat × Int), (∀ p ∈ T, p.2 = 19 → p.1 = [38]) → T.lookup [a] = some 19 → False := by
    intro T hT
    induction T with
    | nil => intro q; cases q
    | cons p r ih =>
      intro q
      rw [List.lookup_cons] at q
      cases hq : ([a] == p.1) with
      | true =>
        rw [hq] at q
        have h1 := hT p (.head _) (Option.some.inj q)
        rw [h1] at hq
        exact h (by simpa using hq)
      | false =>
        rw [hq] at q
        exact ih (fun x hx => hT x (.tail _ hx)) q
  unfold numL at e
  cases hq : tokens.lookup [a] with
  | none => rw [hq] at e; cases e
  | some i =>
    rw [hq] at e
    refine key tokens (by decide +kernel) (hq.trans (congrArg some e))
/-- what an escape spells of a sign is that sign, or a reference that is read as it -/
theorem spell_cases {h a : Nat} (hh : h < 5) : (spell h a = [a] ∧ a ≠ 38) ∨ ∃ body, body.all big = true ∧ spell h a = 38 :: (body ++ [59]) ∧ refOf (38 :: (body ++ [59])) = [a] := by
  unfold spell
  have h38 : ∀ h < 5, (tabs.getD h []).lookup 38 = some [38, 97, 109, 112, 59] := by decide +kernel
  have hall : ∀ h < 5, ∀ p ∈ tabs.getD h [], p.2 = 38 :: (p.2.tail.dropLast ++ [59]) ∧ p.2.tail.dropLast.all big = true ∧ refOf p.2 = [p.1] := by decide +kernel
  cases hq : (tabs.getD h []).lookup a with
  | none =>
    refine .inl ⟨rfl, ?_⟩
    rintro rfl
    rw [h38 h hh] at hq; cases hq
  | some z =>
    have hm : (a, z) ∈ tabs.getD h [] := by
      revert hq
      generalize tabs.getD h [] = T
      induction T with
      | nil => intro q; cases q
      | cons p r ih =>
        intro q
        rw [List.lookup_cons] at q
        cases he : (a == p.1) with
        | true =>
          rw [he] at q
          have : p = (a, z) := by rw [beq_iff_eq.mp he, ← Option.some.inj q]
          rw [this]; exact .head _
        | false => rw [he] at q; exact .tail _ (ih q)
    obtain ⟨h1, h2, h3⟩ := hall h hh _ hm
    exact .inr ⟨_, h2, h1, by rw [← h1]; exact h3⟩
/-- a writing opened is the writing below it -/
theorem open_spell {h : Nat} (hh : h < 5) : ∀ l : List Nat, openL (l.flatMap (spell h)) = l
  | [] => openL_nil
  | a :: r => by
    rw [List.flatMap_cons]
    rcases spell_cases (a := a) hh with ⟨e, ha⟩ | ⟨body, hb, e, hr⟩
    · rw [e, List.singleton_append, openL_one (num_amp ha), open_spell hh r]
    · rw [e, List.cons_append, List.append_assoc, List.singleton_append, open_ref hb, hr, open_spell hh r]; rfl
/-- the words that one letter gives, from the outermost writing to the letter -/
inductive Chain : List (List Nat) → Prop
  | last {x : List Nat} (h1 : eofW x = false) (h2 : ampW x = false) : Chain [x]
  | more {y z : List Nat} {r : List (List Nat)} (h1 : eofW y = false) (h2 : ampW y = true) (h3 : openL y = z) (h : Chain (z :: r)) : Chain (y :: z :: r)
theorem chain_run {ys : List (List Nat)} (h : Chain ys) (n : Nat) (xs : List Nat) : ∀ y r, ys = y :: r → turnsG (ys.length + n) [y] xs = (ys ++ (turnsG n [] xs).1, (turnsG n [] xs).2) := by
  induction h with
  | last h1 h2 =>
    rintro y r e
    obtain ⟨rfl, rfl⟩ := List.cons.inj e
    rw [List.length_singleton, Nat.add_comm, turnsG_no (pb := [_]) h1 h2]; rfl
  | @more y z r h1 h2 h3 h ih =>
    rintro y' r' e
    obtain ⟨rfl, rfl⟩ := List.cons.inj e
    have := ih z r rfl
    rw [List.length_cons, Nat.add_right_comm, turnsG_amp (pb := [y]) (n := (z :: r).length + n) h1 h2]
    show (y :: (turnsG _ ([] ++ [openL y]) xs).1, (turnsG _ ([] ++ [openL y]) xs).2) = _
    rw [h3, List.nil_append, this]; rfl
theorem turns_tok (n : Nat) (xs : List Nat) : turnsG n [] xs = if n = 0 then ([], [], xs) else turnsG n [(tokG xs).1] (tokG xs).2 := by
  cases n with
  | zero => rfl
  | succ n => rw [if_neg (Nat.succ_ne_zero n)]; rfl
theorem chain_page {y : List Nat} {r : List (List Nat)} (h : Chain (y :: r)) {xs xs' : List Nat} (ht : tokG xs = (y, xs')) (n : Nat) : turnsG ((y :: r).length + n) [] xs = ((y :: r) ++ (turnsG n [] xs').1, (turnsG n [] xs').2) := by
  rw [turns_tok, if_neg (by rw [List.length_cons]; omega), ht]
  exact chain_run h n xs' y r rfl
theorem turns_ws {p : List Nat} (hp : p.all ws = true) (n : Nat) : turnsG (n + 1) [] p = ([[]], [], []) := by
  have ht : tokG p = ([], []) := by
    induction p with
    | nil => rfl
    | cons c r ih =>
      rw [List.all_cons, Bool.and_eq_true] at hp
      rw [tokG_ws hp.1, ih hp.2]
  have e : nextW [] p = ([], [], []) := by show ((tokG p).1, [], (tokG p).2) = _; rw [ht]
  rw [turnsG_eof (by rw [e]; rfl), e]
/-- the first words of the rows, the rows behind them -/
noncomputable def headsR (R : List (List (List Nat))) : List (List Nat) := R.map fun r => r.headD []
noncomputable def nextR' (R : List (List (List Nat))) : List (List (List Nat)) := (R.map List.tail).filter fun r => !r.isEmpty
theorem round {xs : List Nat} : ∀ (R : List (List (List Nat))) (Q : List (List Nat)) (n : Nat), (∀ r ∈ R, Chain r) → turnsG (R.length + n) (headsR R ++ Q) xs = (headsR R ++ (turnsG n (Q ++ headsR (nextR' R)) xs).1, (turnsG n (Q ++ headsR (nextR' R)) xs).2)
  | [], Q, n, _ => by
    show turnsG (0 + n) ([] ++ Q) xs = ([] ++ (turnsG n (Q ++ []) xs).1, (turnsG n (Q ++ []) xs).2)
    rw [List.append_nil, List.nil_append, List.nil_append, Nat.zero_add]
  | r :: R, Q, n, h => by
    have hr := h r (.head _)
    have hR := fun x hx => h x (.tail _ hx)
    cases hr with
    | @last x h1 h2 =>
      have e : headsR ([x] :: R) ++ Q = x :: (headsR R ++ Q) := rfl
      have e2 : headsR (nextR' ([x] :: R)) = headsR (nextR' R) := rfl
      rw [e, e2, List.length_cons, Nat.add_right_comm, turnsG_no (pb := x :: (headsR R ++ Q)) h1 h2]
      show (x :: (turnsG _ (headsR R ++ Q) xs).1, (turnsG _ (headsR R ++ Q) xs).2) = _
      rw [round R Q n hR]; rfl
    | @more y z r h1 h2 h3 h4 =>
      have e : headsR ((y :: z :: r) :: R) ++ Q = y :: (headsR R ++ Q) := rfl
      have e2 : headsR (nextR' ((y :: z :: r) :: R)) = [z] ++ headsR (nextR' R) := rfl
      rw [e, e2, List.length_cons, Nat.add_right_comm, turnsG_amp (pb := y :: (headsR R ++ Q)) h1 h2]
      show (y :: (turnsG _ ((headsR R ++ Q) ++ [openL y]) xs).1, (turnsG _ ((headsR R ++ Q) ++ [openL y]) xs).2) = _
      rw [h3, List.append_assoc, round R (Q ++ [z]) n hR, List.append_assoc]; rfl
theorem chain_next {R : List (List (List Nat))} (h : ∀ r ∈ R, Chain r) : ∀ r ∈ nextR' R, Chain r := by
  intro r hr
  unfold nextR' at hr
  rw [List.mem_filter, List.mem_map] at hr
  obtain ⟨⟨a, ha, rfl⟩, hne⟩ := hr
  cases h a ha with
  | last h1 h2 => cases hne
  | more h1 h2 h3 h4 => exact h4
theorem next_len (R : List (List (List Nat))) : (nextR' R).length ≤ R.length := by
  unfold nextR'
  exact Nat.le_trans (List.length_filter_le _ _) (by rw [List.length_map]; exact Nat.le_refl _)
/-- a chain of at most k words has none behind it after k rounds -/
theorem next_short {k : Nat} {R : List (List (List Nat))} (h : ∀ r ∈ R, r.length ≤ k + 1) : ∀ r ∈ nextR' R, r.length ≤ k := by
  intro r hr
  unfold nextR' at hr
  rw [List.mem_filter, List.mem_map] at hr
  obtain ⟨⟨a, ha, rfl⟩, hne⟩ := hr
  have := h a ha
  rw [List.length_tail]; omega
theorem next_none {R : List (List (List Nat))} (h : ∀ r ∈ R, r.length ≤ 1) : nextR' R = [] := by
  unfold nextR'
  rw [List.filter_eq_nil_iff]
  intro r hr
  obtain ⟨a, ha, rfl⟩ := List.mem_map.mp hr
  have := h a ha
  cases a with
  | nil => simp
  | cons x a => cases a with
    | nil => simp
    | cons y a => simp at this
theorem rounds_all {R : List (List (List Nat))} (h : ∀ r ∈ R, Chain r) (h3 : ∀ r ∈ R, r.length ≤ 3) (hn : R.length ≤ 3) :
    turnsG 10 (headsR R) [] = (headsR R ++ (headsR (nextR' R) ++ (headsR (nextR' (nextR' R)) ++ [[]])), [], []) := by
  have hl1 := next_len R
  have hl2 := next_len (nextR' R)
  have c1 := chain_next h
  have c2 := chain_next c1
  have e3 : nextR' (nextR' (nextR' R)) = [] := next_none (next_short (next_short h3))
  have k1 := round (xs := []) R [] (10 - R.length) h
  rw [List.append_nil, List.nil_append, show R.length + (10 - R.length) = 10 from by omega] at k1
  have k2 := round (xs := []) (nextR' R) [] (10 - R.length - (nextR' R).length) c1
  rw [List.append_nil, List.nil_append, show (nextR' R).length + (10 - R.length - (nextR' R).length) = 10 - R.length from by omega] at k2
  have k3 := round (xs := []) (nextR' (nextR' R)) [] (10 - R.length - (nextR' R).length - (nextR' (nextR' R)).length) c2
  rw [List.append_nil, List.nil_append, show (nextR' (nextR' R)).length + (10 - R.length - (nextR' R).length - (nextR' (nextR' R)).length) = 10 - R.length - (nextR' R).length from by omega, e3] at k3
  have k4 : turnsG (10 - R.length - (nextR' R).length - (nextR' (nextR' R)).length) (headsR []) [] = ([[]], [], []) := by
    rw [show 10 - R.length - (nextR' R).length - (nextR' (nextR' R)).length = (9 - R.length - (nextR' R).length - (nextR' (nextR' R)).length) + 1 from by omega]
    exact turns_ws (p := []) rfl _
  rw [k1, k2, k3, k4]
end Mine
end
section
open PySem PySem.W PySem.Calls PyProof.Rows PyProof.V
namespace Mine
theorem upto_quoted (rest : List Nat) : ∀ l : List Nat, upto (· == 34) (l.flatMap quoted ++ 34 :: rest) = (l, rest)
  | [] => upto_stop rfl
  | a :: r => by
    rw [List.flatMap_cons]
    have ih := upto_quoted rest r
    unfold quoted
    by_cases h1 : a = 92
    · subst h1
      rw [if_pos rfl]
      show upto _ (92 :: 92 :: (r.flatMap quoted ++ 34 :: rest)) = _
      rw [upto_esc rfl rfl, ih]
    · rw [if_neg h1]
      by_cases h2 : a = 34
      · subst h2
        rw [if_pos rfl]
        show upto _ (92 :: 34 :: (r.flatMap quoted ++ 34 :: rest)) = _
        rw [upto_esc rfl rfl, ih]
      · rw [if_neg h2]
        show upto _ (a :: (r.flatMap quoted ++ 34 :: rest)) = _
        rw [upto_one (by simpa using h2) h1, ih]
theorem upto_slashed {e : Bool} {b : Nat} {rest : List Nat} (hb : ws b = true) : ∀ l : List Nat, upto ws (l.flatMap (slashed e) ++ b :: rest) = (l, rest)
  | [] => upto_stop hb
  | a :: r => by
    rw [List.flatMap_cons]
    have ih := upto_slashed (e := e) (rest := rest) hb r
    cases hc : (e || [32, 10, 9, 13, 34, 92].contains a) with
    | true =>
      rw [show slashed e a = [92, a] from by unfold slashed; rw [hc]; rfl]
      show upto _ (92 :: a :: (r.flatMap (slashed e) ++ b :: rest)) = _
      rw [upto_esc (by decide) rfl, ih]
    | false =>
      rw [show slashed e a = [a] from by unfold slashed; rw [hc]; rfl]
      rw [Bool.or_eq_false_iff] at hc
      have h2 := hc.2
      simp only [List.contains_eq_any_beq, List.any_cons, List.any_nil, Bool.or_false, Bool.or_eq_false_iff, beq_eq_false_iff_ne] at h2
      obtain ⟨a1, a2, a3, a4, a5, a6⟩ := h2
      show upto _ (a :: (r.flatMap (slashed e) ++ b :: rest)) = _
      rw [upto_one (by simp [ws, a1, a2, a3, a4]) a6, ih]
theorem blank_ws (d : Int) : ws (blankOf d) = true := by
  unfold blankOf
  have h1 := Int.fmod_nonneg_of_pos (d.fdiv 9) (b := 4) (by decide)
  have h2 := Int.fmod_lt_of_pos (d.fdiv 9) (b := 4) (by decide)
  generalize (d.fdiv 9).fmod 4 = k at h1 h2
  have : k.toNat < 4 := by omega
  generalize k.toNat = n at this
  revert n; decide
theorem tok_pre {p : List Nat} (hp : p.all ws = true) (r : List Nat) : tokG (p ++ r) = tokG r := by
  induction p with
  | nil => rfl
  | cons c p ih =>
    rw [List.all_cons, Bool.and_eq_true] at hp
    rw [List.cons_append, tokG_ws hp.1, ih hp.2]
noncomputable def dressL (w : List Nat) (d : Int) : List Nat :=
  if (d.fdiv 3).fmod 3 = 1 then 34 :: (w.flatMap quoted ++ [34, blankOf d]) else w.flatMap (slashed (decide ((d.fdiv 3).fmod 3 = 2))) ++ [blankOf d]
theorem dressS_eq (w : List Nat) (d : Int) : dressS (strS w) d = strS (dressL w d) := by
  unfold dressS dressL
  split
  · show (Str.mk ((((#[34] : Array Nat) ++ (w.flatMap quoted).toArray) ++ #[34]) ++ #[blankOf d])) = Str.mk _
    congr 1
    simp
  · show (Str.mk ((w.flatMap (slashed _)).toArray ++ #[blankOf d])) = Str.mk _
    congr 1
    simp
/-- a word as it stands on the page is read as that word -/
theorem tok_dress {w' : List Nat} (d : Int) {p : List Nat} (hp : p.all ws = true) (rest : List Nat) : ∃ q : List Nat, q.all ws = true ∧ tokG (p ++ (dressL (38 :: w') d ++ rest)) = (38 :: w', q ++ rest) := by
  rw [tok_pre hp]
  have hb := blank_ws d
  unfold dressL
  split
  · refine ⟨[blankOf d], by rw [List.all_cons, hb]; rfl, ?_⟩
    rw [List.cons_append, tokG_q (by decide) rfl, List.append_assoc]
    exact upto_quoted (blankOf d :: rest) (38 :: w')
  · refine ⟨[], rfl, ?_⟩
    generalize decide ((d.fdiv 3).fmod 3 = 2) = e
    rw [List.flatMap_cons, List.append_assoc, List.append_assoc]
    have h := upto_slashed (e := e) (rest := rest) hb w'
    cases e with
    | true =>
      show tokG (92 :: 38 :: (w'.flatMap (slashed true) ++ blankOf d :: rest)) = _
      rw [tokG_esc (by decide) rfl]
      show (38 :: (upto ws (w'.flatMap (slashed true) ++ blankOf d :: rest)).1, (upto ws (w'.flatMap (slashed true) ++ blankOf d :: rest)).2) = _
      rw [h]; rfl
    | false =>
      show tokG (38 :: (w'.flatMap (slashed false) ++ blankOf d :: rest)) = _
      rw [tokG_one (by decide) (by decide) (by decide), h]; rfl
/-- the page's words: letter by letter, its writings from the outermost to the letter itself -/
theorem page_all {a b c : List Nat} {ra rb rc : List (List Nat)} (d0 d1 d2 : Int) (ha : Chain ((38 :: a) :: ra)) (hb : Chain ((38 :: b) :: rb)) (hc : Chain ((38 :: c) :: rc))
    (la : ((38 :: a) :: ra).length ≤ 3) (lb : ((38 :: b) :: rb).length ≤ 3) (lc : ((38 :: c) :: rc).length ≤ 3) :
    turnsG 10 [] (dressL (38 :: a) d0 ++ (dressL (38 :: b) d1 ++ dressL (38 :: c) d2)) = (((38 :: a) :: ra) ++ (((38 :: b) :: rb) ++ (((38 :: c) :: rc) ++ [[]])), [], []) := by
  obtain ⟨q0, w0, t0⟩ := tok_dress (w' := a) d0 (p := []) rfl (dressL (38 :: b) d1 ++ dressL (38 :: c) d2)
  obtain ⟨q1, w1, t1⟩ := tok_dress (w' := b) d1 (p := q0) w0 (dressL (38 :: c) d2)
  obtain ⟨q2, w2, t2⟩ := tok_dress (w' := c) d2 (p := q1) w1 []
  rw [List.append_nil, List.append_nil] at t2
  have k0 := chain_page ha t0 (10 - ((38 :: a) :: ra).length)
  rw [show ((38 :: a) :: ra).length + (10 - ((38 :: a) :: ra).length) = 10 from by omega, List.nil_append] at k0
  have k1 := chain_page hb t1 (10 - ((38 :: a) :: ra).length - ((38 :: b) :: rb).length)
  rw [show ((38 :: b) :: rb).length + (10 - ((38 :: a) :: ra).length - ((38 :: b) :: rb).length) = 10 - ((38 :: a) :: ra).length from by omega] at k1
  have k2 := chain_page hc t2 (10 - ((38 :: a) :: ra).length - ((38 :: b) :: rb).length - ((38 :: c) :: rc).length)
  rw [show ((38 :: c) :: rc).length + (10 - ((38 :: a) :: ra).length - ((38 :: b) :: rb).length - ((38 :: c) :: rc).length) = 10 - ((38 :: a) :: ra).length - ((38 :: b) :: rb).length from by omega] at k2
  have k3 := turns_ws w2 (9 - ((38 :: a) :: ra).length - ((38 :: b) :: rb).length - ((38 :: c) :: rc).length)
  rw [show 9 - ((38 :: a) :: ra).length - ((38 :: b) :: rb).length - ((38 :: c) :: rc).length + 1 = 10 - ((38 :: a) :: ra).length - ((38 :: b) :: rb).length - ((38 :: c) :: rc).length from by omega] at k3
  rw [k0, k1, k2, k3]
/-- a letter's rows -/
noncomputable def rowL (c d : Int) : List (List Nat) := (layersS (strS (letterL c)) (handsOf d)).map fun y => y.cps.toList
/-- a letter's outermost writing -/
noncomputable def outL (c d : Int) : List Nat := (rowL c d).headD []
theorem spell_amp {h : Nat} (hh : h < 5) : spell h 38 = [38, 97, 109, 112, 59] := (by decide +kernel : ∀ h < 5, spell h 38 = [38, 97, 109, 112, 59]) h hh
theorem amp_word {h : Nat} (hh : h < 5) (r : List Nat) : eofW ((38 :: r).flatMap (spell h)) = false ∧ ampW ((38 :: r).flatMap (spell h)) = true ∧ ∃ r', (38 :: r).flatMap (spell h) = 38 :: r' := by
  rw [List.flatMap_cons, spell_amp hh]
  refine ⟨?_, ?_, _, rfl⟩
  · unfold eofW
    rw [if_neg (by simp)]
    exact (by decide +kernel : decide (numL [38] = 0) = false)
  · unfold ampW
    exact (by decide +kernel : (decide (numL [38, 97] ≠ 41) && decide (numL [38] = 19)) = true)
theorem letter_word (a b : Nat) : eofW [38, 61, a, b] = false ∧ ampW [38, 61, a, b] = false :=
  ⟨(by decide +kernel : decide (numL [38] = 0) = false), (by decide +kernel : (decide (numL [38, 61] ≠ 41) && decide (numL [38] = 19)) = false)⟩
theorem hands_ok (d : Int) : ∀ h ∈ handsOf d, 0 ≤ h ∧ h < 5 := by
  intro h hm
  unfold handsOf at hm
  have := List.mem_of_mem_take hm
  simp only [List.mem_cons, List.not_mem_nil, or_false] at this
  rcases this with rfl | rfl
  · exact ⟨Int.fmod_nonneg_of_pos _ (by decide), Int.fmod_lt_of_pos _ (by decide)⟩
  · exact ⟨Int.fmod_nonneg_of_pos _ (by decide), Int.fmod_lt_of_pos _ (by decide)⟩
theorem hands_cases (d : Int) : handsOf d = [] ∨ (∃ h, handsOf d = [h]) ∨ ∃ h k, handsOf d = [h, k] := by
  unfold handsOf
  have h1 := Int.fmod_nonneg_of_pos d (b := 3) (by decide)
  have h2 := Int.fmod_lt_of_pos d (b := 3) (by decide)
  have : d.fmod 3 = 0 ∨ d.fmod 3 = 1 ∨ d.fmod 3 = 2 := by omega
  rcases this with e | e | e <;> rw [e]
  · exact .inl rfl
  · exact .inr (.inl ⟨_, rfl⟩)
  · exact .inr (.inr ⟨_, _, rfl⟩)
theorem row_facts (c d : Int) : ∃ a r, rowL c d = (38 :: a) :: r ∧ Chain ((38 :: a) :: r) ∧ ((38 :: a) :: r).length ≤ 3 := by
  obtain ⟨x1, x2⟩ := letter_word (signOf c (c.fmod 13)) (signOf c ((c.fdiv 13).fmod 13))
  have hx : letterL c = 38 :: [61, signOf c (c.fmod 13), signOf c ((c.fdiv 13).fmod 13)] := rfl
  have hok := hands_ok d
  unfold rowL
  rcases hands_cases d with e | ⟨h, e⟩ | ⟨h, k, e⟩ <;> rw [e] at hok ⊢
  · exact ⟨_, [], rfl, .last x1 x2, by simp⟩
  · have h5 := hok h (by simp)
    have hn : h.toNat < 5 := by omega
    obtain ⟨y1, y2, r', y3⟩ := amp_word hn [61, signOf c (c.fmod 13), signOf c ((c.fdiv 13).fmod 13)]
    have o1 := open_spell hn (letterL c)
    refine ⟨r', [letterL c], ?_, ?_, by simp⟩
    · show [(letterL c).flatMap (spell h.toNat), letterL c] = _
      rw [hx, y3]
    · rw [← y3]
      exact .more y1 y2 o1 (.last x1 x2)
  · have h5 := hok h (by simp)
    have k5 := hok k (by simp)
    have hn : h.toNat < 5 := by omega
    have kn : k.toNat < 5 := by omega
    obtain ⟨y1, y2, r', y3⟩ := amp_word hn [61, signOf c (c.fmod 13), signOf c ((c.fdiv 13).fmod 13)]
    obtain ⟨z1, z2, r2, z3⟩ := amp_word kn r'
    have o1 := open_spell hn (letterL c)
    have o2 := open_spell kn ((letterL c).flatMap (spell h.toNat))
    rw [hx, y3] at o2
    refine ⟨r2, [38 :: r', letterL c], ?_, ?_, by simp⟩
    · show [((letterL c).flatMap (spell h.toNat)).flatMap (spell k.toNat), (letterL c).flatMap (spell h.toNat), letterL c] = _
      rw [hx, y3, z3]
    · rw [← z3]
      refine .more z1 z2 o2 ?_
      rw [← y3]
      exact .more y1 y2 o1 (.last x1 x2)
end Mine
end
section
open PySem PySem.W PySem.Calls PyProof.Rows PyProof.V
namespace Mine
theorem news_sw {h₀ h : Heap} {L : Addr} {a b : Addr × Obj} {r : List (Addr × Obj)} (N : News h₀ L h (a :: b :: r)) : News h₀ L h (b :: a :: r) := fun p hp => by
  rcases List.mem_cons.mp hp with rfl | hp
  · exact N _ (.tail _ (.head _))
  rcases List.mem_cons.mp hp with rfl | hp
  · exact N _ (.head _)
  · exact N p (.tail _ (.tail _ hp))
/-- the last of a ledger, and what is ahead of it -/
noncomputable def lastN : Addr × Obj → List (Addr × Obj) → Addr × Obj
  | x, [] => x
  | _, y :: r => lastN y r
noncomputable def initN : Addr × Obj → List (Addr × Obj) → List (Addr × Obj)
  | _, [] => []
  | x, y :: r => x :: initN y r
theorem lastN_mem : ∀ (x : Addr × Obj) (r : List (Addr × Obj)), lastN x r ∈ x :: r
  | x, [] => .head _
  | x, y :: r => .tail _ (lastN_mem y r)
theorem initN_mem : ∀ (x : Addr × Obj) (r : List (Addr × Obj)), ∀ p ∈ initN x r, p ∈ x :: r
  | _, [], _, h => nomatch h
  | x, y :: r, p, h => by
    rcases List.mem_cons.mp h with rfl | h
    · exact .head _
    · exact .tail _ (initN_mem y r p h)
theorem news_rot {h₀ h : Heap} {L : Addr} {x : Addr × Obj} {r : List (Addr × Obj)} (N : News h₀ L h (x :: r)) : News h₀ L h (lastN x r :: initN x r) := fun p hp => by
  rcases List.mem_cons.mp hp with rfl | hp
  · exact N _ (lastN_mem x r)
  · exact N p (initN_mem x r p hp)
theorem hands_two (d : Int) : (handsOf d).length ≤ 2 := by
  unfold handsOf; rw [List.length_take]; exact Nat.min_le_right _ _
theorem ints_get2 : ∀ {vs : List Value} {xs : List Int}, IntsAre vs xs → ∀ {i : Nat}, i < vs.toArray.size → ∃ t, vs.toArray[i]? = some (.int (xs.getD i 0) t) ∧ i < xs.length
  | _, _, .nil, _, h => absurd h (Nat.not_lt_zero _)
  | _, _, .cons z t _, 0, _ => ⟨t, rfl, Nat.succ_pos _⟩
  | _, _, .cons z t r, i + 1, h => by
    obtain ⟨u, e, l⟩ := ints_get2 r (i := i) (by simpa using h)
    exact ⟨u, by simpa using e, Nat.succ_lt_succ l⟩
theorem ints_size : ∀ {vs : List Value} {xs : List Int}, IntsAre vs xs → vs.toArray.size = xs.length
  | _, _, .nil => rfl
  | _, _, .cons z t r => by have := ints_size r; simpa using this
/-- a text after some escapes, one upon what the other wrote -/
noncomputable def outS (x : Str) (l : List Int) : Str := l.foldl (fun y h => fm (spell h.toNat) y) x
theorem outS_len : ∀ (l : List Int) (x : Str), (outS x l).length ≤ 6 ^ l.length * x.length
  | [], x => by show x.length ≤ 1 * x.length; omega
  | h :: r, x => by
    have h1 := outS_len r (fm (spell h.toNat) x)
    have h2 := fm_length 6 (spell_len h.toNat) x
    have h3 : 6 ^ r.length * (fm (spell h.toNat) x).length ≤ 6 ^ r.length * (6 * x.length) := Nat.mul_le_mul_left _ h2
    show (outS (fm (spell h.toNat) x) r).length ≤ 6 ^ (r.length + 1) * x.length
    rw [Nat.pow_succ, Nat.mul_assoc]
    exact Nat.le_trans h1 h3
theorem out_len (c d : Int) (i : Nat) : (outS ⟨(letterL c).toArray⟩ ((handsOf d).take i)).length ≤ 144 := by
  have h1 := outS_len ((handsOf d).take i) ⟨(letterL c).toArray⟩
  have h2 : ((handsOf d).take i).length ≤ 2 := by rw [List.length_take]; have := hands_two d; omega
  rw [show (⟨(letterL c).toArray⟩ : Str).length = 4 from rfl] at h1
  have h3 : 6 ^ ((handsOf d).take i).length ≤ 6 ^ 2 := Nat.pow_le_pow_right (by decide) h2
  omega
theorem out_len2 (c d : Int) : (outS ⟨(letterL c).toArray⟩ (handsOf d)).length ≤ 144 := by
  have := out_len c d (handsOf d).length
  rwa [List.take_length] at this
theorem getD_at {hs : List Int} {i : Nat} (h : i < hs.length) : hs.getD i 0 = hs[i] := by
  rw [List.getD_eq_getElem?_getD, List.getElem?_eq_getElem h]; rfl
theorem out_snoc {x : Str} {hs : List Int} {i : Nat} (h : i < hs.length) : fm (spell (hs.getD i 0).toNat) (outS x (hs.take i)) = outS x (hs.take (i + 1)) := by
  rw [List.take_succ_eq_append_getElem h]
  unfold outS
  rw [List.foldl_append, List.foldl_cons, List.foldl_nil, getD_at h]
theorem hand_ok {d : Int} {i : Nat} (h : i < (handsOf d).length) : 0 ≤ (handsOf d).getD i 0 ∧ (handsOf d).getD i 0 < 5 := by
  rw [getD_at h]
  exact hands_ok d _ (List.getElem_mem h)
/-- names, and a text and a hand put upon them -/
noncomputable abbrev txL (m : Str → Option Value) (v : Value) (hv : Option Value) : Str → Option Value := fun y => if y = Str.ofString "text" then some v else if y = Str.ofString "hand" then hv else m y
theorem txL_fr {g h : Heap} {L : Addr} {m m' : Str → Option Value} {v : Value} {hv : Option Value} (F : Fr g L h m') (h1 : m' (Str.ofString "text") = some v) (h2 : m' (Str.ofString "hand") = hv)
    (h5 : ∀ y, y ≠ Str.ofString "text" → y ≠ Str.ofString "hand" → m' y = m y) : Fr g L h (txL m v hv) := by
  have e : m' = txL m v hv := by
    funext y
    by_cases e1 : y = Str.ofString "text"
    · subst e1; rw [h1]; rfl
    by_cases e2 : y = Str.ofString "hand"
    · subst e2; rw [h2]; rfl
    rw [h5 y e1 e2]
    simp only [txL, if_neg e1, if_neg e2]
  rw [← e]; exact F
/-- where the loop over the hands stands -/
noncomputable def HInv (g : Heap) (L' : Addr) (m : Str → Option Value) (news : List (Addr × Obj)) (s : Shared) (vs : List Value) (c d : Int) (l I : Addr) (k : Nat) (s' : Shared) : Prop :=
  ∃ (i : Nat) (oI : Obj) (t' : Tok) (hv : Option Value) (h' : Heap) (tk' : Tok), s' = { s with heap := h', toks := tk' } ∧ i ≤ vs.toArray.size ∧ k = vs.toArray.size - i ∧ ItIs oI l i ∧
    Fr g L' h' (txL m (.str (outS ⟨(letterL c).toArray⟩ ((handsOf d).take i)) t') hv) ∧ News g L' h' ((I, oI) :: news)
theorem sameH {g : Heap} {L' : Addr} {h : Heap} {m : Str → Option Value} {news : List (Addr × Obj)} {s : Shared} {ts : List (Addr × Addr)} {sv : Addr} {its : Array Value} (_hS : (ghostOf s.heap ts).IsList sv its) (_F : Fr g L' h m) (_N : News g L' h news) {vs ys : List Value} {c d : Int} (_h : IntsAre vs (handsOf d)) (_y : StrsAre ys (layersS ⟨(letterL c).toArray⟩ (handsOf d))) {l : Addr} {oI : Obj} {i0 : Nat} (_hi : ItIs oI l i0) (I : Addr) {R : Prop} (k : ∀ V, Same V (HInv g L' m news s vs c d l I) → R) : R := k _ ⟨rfl⟩
noncomputable def hszOf {vs : List Value} {xs : List Int} (_ : IntsAre vs xs) : Nat := vs.toArray.size
theorem fm_len_two {f : Nat → List Nat} (h : ∀ a, (f a).length ≤ 2) (x : Str) : (fm f x).length ≤ 2 * x.length := fm_length 2 h x
theorem dress_len {x : Str} (d : Int) (hx : x.length ≤ 144) : (dressS x d).length ≤ 300 := by
  have q : ∀ a, (quoted a).length ≤ 2 := by
    intro a; unfold quoted; split
    · exact Nat.le_refl _
    · split
      · exact Nat.le_refl _
      · exact Nat.le_of_ble_eq_true rfl
  have sl : ∀ e a, (slashed e a).length ≤ 2 := by
    intro e a; unfold slashed; split
    · exact Nat.le_refl _
    · exact Nat.le_of_ble_eq_true rfl
  unfold dressS
  split
  · have := fm_len_two q x
    show ((((#[34] : Array Nat) ++ (fm quoted x).cps) ++ #[34]) ++ #[blankOf d]).size ≤ 300
    simp only [Array.size_append]
    have h1 : (fm quoted x).cps.size ≤ 2 * x.length := this
    have h2 : (#[34] : Array Nat).size = 1 := rfl
    have h3 : (#[blankOf d] : Array Nat).size = 1 := rfl
    omega
  · have h1 : (fm (slashed (decide ((d.fdiv 3).fmod 3 = 2))) x).cps.size ≤ 2 * x.length := fm_len_two (sl _) x
    show ((fm (slashed (decide ((d.fdiv 3).fmod 3 = 2))) x).cps ++ #[blankOf d]).size ≤ 300
    simp only [Array.size_append]
    have h3 : (#[blankOf d] : Array Nat).size = 1 := rfl
    omega
end Mine
namespace Mine
theorem Off.nil {d : Addr} : Off d [] := trivial
theorem Off.mk {d : Addr} {p : Addr × Obj} {r : List (Addr × Obj)} (h : @LT.lt Nat _ d p.1) (hr : Off d r) : Off d (p :: r) := ⟨Ne.symm (Nat.ne_of_lt h), hr⟩
theorem apart_nil {P : LexP} : Apart P [] := fun _ h => nomatch h
theorem apart_lo {P : LexP} {p : Addr × Obj} {r : List (Addr × Obj)} (h : @LT.lt Nat _ p.1 P.cell) (hr : Apart P r) : Apart P (p :: r) := fun q hq => by
  rcases List.mem_cons.mp hq with rfl | hq
  · exact .inl h
  · exact hr q hq
theorem apart_hi {P : LexP} {p : Addr × Obj} {r : List (Addr × Obj)} (h : @LT.lt Nat _ P.pb p.1) (hr : Apart P r) : Apart P (p :: r) := fun q hq => by
  rcases List.mem_cons.mp hq with rfl | hq
  · exact .inr h
  · exact hr q hq
theorem news_perm {h₀ h : Heap} {L : Addr} {l l' : List (Addr × Obj)} (N : News h₀ L h l) (e : ∀ p ∈ l', p ∈ l) : News h₀ L h l' := fun p hp => N p (e p hp)
section
variable {w : World} {P : LexP} {ln : Int} {lt : Tok} {pbs : Array Value} {pn : Nat} {sgs : Array Value} {sn : Nat} {news : List (Addr × Obj)} {h₀ h : Heap} {L : Addr}
theorem lex_mem {A : List (Addr × Obj)} : ∀ p ∈ lexNews w P ln lt pbs pn sgs sn (A ++ news), p ∈ A ++ lexNews w P ln lt pbs pn sgs sn news := fun p hp => by
  have e : ∀ r, lexNews w P ln lt pbs pn sgs sn r = lexNews w P ln lt pbs pn sgs sn [] ++ r := fun _ => rfl
  rw [e] at hp ⊢
  simp only [List.mem_append] at hp ⊢
  rcases hp with h | h | h
  · exact .inr (.inl h)
  · exact .inl h
  · exact .inr (.inr h)
theorem lex_b1 {a : Addr × Obj} (N : News h₀ L h (a :: lexNews w P ln lt pbs pn sgs sn news)) : News h₀ L h (lexNews w P ln lt pbs pn sgs sn (a :: news)) := news_perm N (lex_mem (A := [a]))
theorem lex_b2 {a b : Addr × Obj} (N : News h₀ L h (a :: b :: lexNews w P ln lt pbs pn sgs sn news)) : News h₀ L h (lexNews w P ln lt pbs pn sgs sn (a :: b :: news)) := news_perm N (lex_mem (A := [a, b]))
theorem lex_b3 {a b c : Addr × Obj} (N : News h₀ L h (a :: b :: c :: lexNews w P ln lt pbs pn sgs sn news)) : News h₀ L h (lexNews w P ln lt pbs pn sgs sn (a :: b :: c :: news)) := news_perm N (lex_mem (A := [a, b, c]))
theorem lex_b4 {a b c d : Addr × Obj} (N : News h₀ L h (a :: b :: c :: d :: lexNews w P ln lt pbs pn sgs sn news)) : News h₀ L h (lexNews w P ln lt pbs pn sgs sn (a :: b :: c :: d :: news)) := news_perm N (lex_mem (A := [a, b, c, d]))
end
end Mine
namespace Mine
theorem lt_head {D : Addr} {x : Addr × Obj} {r : List (Addr × Obj)} (h : ∀ p ∈ x :: r, p.1 < D) : @LT.lt Nat _ x.1 D := h x (.head _)
end Mine
namespace Mine
theorem lt_head2 {D : Addr} {x y : Addr × Obj} {r : List (Addr × Obj)} (h : ∀ p ∈ x :: y :: r, p.1 < D) : @LT.lt Nat _ x.1 D ∧ @LT.lt Nat _ y.1 D := ⟨h x (.head _), h y (.tail _ (.head _))⟩
end Mine
namespace Mine
theorem prune15 {h₀ h : Heap} {L : Addr} {a1 a2 a3 a4 a5 a6 a7 a8 a9 a10 a11 a12 a13 a14 a15 : Addr × Obj} (N : News h₀ L h [a1, a2, a3, a4, a5, a6, a7, a8, a9, a10, a11, a12, a13, a14, a15]) : News h₀ L h [a15, a1, a4, a7, a10, a11, a14] :=
  news_perm N fun p hp => by
    simp only [List.mem_cons, List.not_mem_nil, or_false] at hp ⊢
    rcases hp with h | h | h | h | h | h | h <;> simp [h]
end Mine
namespace Mine
section
variable {w : World} {P : LexP} {ln : Int} {lt : Tok} {pbs : Array Value} {pn : Nat} {sgs : Array Value} {sn : Nat} {news : List (Addr × Obj)} {h₀ h : Heap} {L : Addr}
theorem lex_mem' {A : List (Addr × Obj)} : ∀ p ∈ A ++ lexNews w P ln lt pbs pn sgs sn news, p ∈ lexNews w P ln lt pbs pn sgs sn (A ++ news) := fun p hp => by
  have e : ∀ r, lexNews w P ln lt pbs pn sgs sn r = lexNews w P ln lt pbs pn sgs sn [] ++ r := fun _ => rfl
  rw [e] at hp ⊢
  simp only [List.mem_append] at hp ⊢
  rcases hp with h | h | h
  · exact .inr (.inl h)
  · exact .inl h
  · exact .inr (.inr h)
theorem lex_f1 {a : Addr × Obj} (N : News h₀ L h (lexNews w P ln lt pbs pn sgs sn (a :: news))) : News h₀ L h (a :: lexNews w P ln lt pbs pn sgs sn news) := news_perm N (lex_mem' (A := [a]))
end
end Mine
namespace Mine
theorem pruneLex {h₀ h : Heap} {L : Addr} {a1 a2 a3 a4 a5 a6 a7 a8 a9 d g li f t r3 r2 r1 lay out c : Addr × Obj} (N : News h₀ L h [a1, a2, a3, a4, a5, a6, a7, a8, a9, d, g, li, f, t, r3, r2, r1, lay, out, c]) : News h₀ L h [g, li, f, a2, a3, r3, r2, r1, lay, c, t] :=
  news_perm N fun p hp => by
    simp only [List.mem_cons, List.not_mem_nil, or_false] at hp ⊢
    rcases hp with h | h | h | h | h | h | h | h | h | h | h <;> simp [h]
end Mine
namespace Mine
theorem newsE {g h : Heap} {L e it : Addr} {m : Str → Option Value} {l : List (Addr × Obj)} {oe oi : Obj} (F : Fr g L h m) (N : News g L h l) (hL : @LT.lt Nat _ L it) (ie : @LT.lt Nat _ it e) (he : h.get? e = some oe) (hi : h.get? it = some oi) : News g L h ((e, oe) :: (it, oi) :: l) := fun p hp => by
  have a1 : g.objs.size ≤ it := Nat.le_of_lt (Nat.lt_of_le_of_lt F.above hL)
  rcases List.mem_cons.mp hp with rfl | hp
  · exact ⟨he, Ne.symm (Nat.ne_of_lt (Nat.lt_trans hL ie)), Heap.get?_none_of_le (Nat.le_trans a1 (Nat.le_of_lt ie))⟩
  rcases List.mem_cons.mp hp with rfl | hp
  · exact ⟨hi, Ne.symm (Nat.ne_of_lt hL), Heap.get?_none_of_le a1⟩
  · exact N p hp
end Mine
end
section
open PySem PySem.W PySem.Calls PyProof.Rows PyProof.V
namespace Mine
noncomputable def SmL (l : List Nat) : Prop := ∀ c ∈ l, c < 1114112
theorem getD_lt {B : Nat} (hB : 0 < B) : ∀ (l : List Nat) (n : Nat), (∀ a ∈ l, a < B) → l.getD n 0 < B
  | [], _, _ => hB
  | a :: _, 0, h => h a (.head _)
  | _ :: r, n + 1, h => getD_lt hB r n fun x hx => h x (.tail _ hx)
theorem sign_lt (c k : Int) : signOf c k < 1114112 := by
  unfold signOf
  refine getD_lt (by decide) _ _ fun a ha => ?_
  have h1 := Int.fmod_nonneg_of_pos (c.fdiv 169) (b := 55135) (by decide)
  have h2 := Int.fmod_lt_of_pos (c.fdiv 169) (b := 55135) (by decide)
  simp only [List.mem_cons, List.not_mem_nil, or_false] at ha
  rcases ha with rfl | rfl | rfl | rfl | rfl | rfl | rfl | rfl | rfl | rfl | rfl | rfl | rfl <;> first | omega | decide
theorem letter_lt (c : Int) : SmL (letterL c) := by
  intro a ha
  unfold letterL at ha
  simp only [List.mem_cons, List.not_mem_nil, or_false] at ha
  rcases ha with rfl | rfl | rfl | rfl
  · decide
  · decide
  · exact sign_lt _ _
  · exact sign_lt _ _
theorem spell_lt {h a : Nat} (ha : a < 1114112) : SmL (spell h a) := by
  by_cases h5 : h < 5
  · rcases spell_cases (a := a) h5 with ⟨e, -⟩ | ⟨body, hb, e, -⟩
    · rw [e]; intro c hc; rw [List.mem_singleton.mp hc]; exact ha
    · unfold spell at *
      have hall : ∀ h < 5, ∀ p ∈ tabs.getD h [], ∀ b ∈ p.2, b < 1114112 := by decide +kernel
      cases hq : (tabs.getD h []).lookup a with
      | none => intro c hc; rw [List.mem_singleton.mp hc]; exact ha
      | some z =>
        have hm : ∀ T : List (Nat × List Nat), T.lookup a = some z → (a, z) ∈ T := by
          intro T
          induction T with
          | nil => intro q; cases q
          | cons p r ih =>
            intro q
            rw [List.lookup_cons] at q
            cases he : (a == p.1) with
            | true =>
              rw [he] at q
              have : p = (a, z) := by rw [beq_iff_eq.mp he, ← Option.some.inj q]
              rw [this]; exact .head _
            | false => rw [he] at q; exact .tail _ (ih q)
        exact hall h h5 _ (hm _ hq)
  · have : tabs.getD h [] = [] := by
      rw [List.getD_eq_getElem?_getD, List.getElem?_eq_none (by show 5 ≤ h; omega)]; rfl
    unfold spell
    rw [this]
    intro c hc
    rw [show (List.lookup a ([] : List (Nat × List Nat))).getD [a] = [a] from rfl, List.mem_singleton] at hc
    rw [hc]; exact ha
theorem flat_lt {f : Nat → List Nat} (hf : ∀ a, a < 1114112 → SmL (f a)) {l : List Nat} (hl : SmL l) : SmL (l.flatMap f) := by
  intro c hc
  obtain ⟨a, ha, hm⟩ := List.mem_flatMap.mp hc
  exact hf a (hl a ha) c hm
theorem out_lt : ∀ (hs : List Int) (x : Str), SmL x.cps.toList → SmL (outS x hs).cps.toList
  | [], _, h => h
  | k :: r, x, h => out_lt r (fm (spell k.toNat) x) (by rw [fm_toList]; exact flat_lt (fun a ha => spell_lt ha) h)
theorem quoted_lt {a : Nat} (ha : a < 1114112) : SmL (quoted a) := by
  unfold quoted
  intro c hc
  split at hc
  · simp at hc; omega
  · split at hc
    · simp at hc; omega
    · simp at hc; omega
theorem slashed_lt {e : Bool} {a : Nat} (ha : a < 1114112) : SmL (slashed e a) := by
  unfold slashed
  intro c hc
  split at hc
  · simp only [List.mem_cons, List.not_mem_nil, or_false] at hc; omega
  · simp only [List.mem_cons, List.not_mem_nil, or_false] at hc; omega
theorem blank_lt (d : Int) : blankOf d < 1114112 := getD_lt (by decide) _ _ (by decide)
theorem dress_lt {w : List Nat} (d : Int) (h : SmL w) : SmL (dressL w d) := by
  have hb := blank_lt d
  unfold dressL
  intro c hc
  split at hc
  · rcases List.mem_cons.mp hc with rfl | hc
    · decide
    rcases List.mem_append.mp hc with hc | hc
    · exact flat_lt (fun a ha => quoted_lt ha) h c hc
    · simp only [List.mem_cons, List.not_mem_nil, or_false] at hc
      rcases hc with rfl | rfl
      · decide
      · exact hb
  · rcases List.mem_append.mp hc with hc | hc
    · exact flat_lt (fun a ha => slashed_lt ha) h c hc
    · simp only [List.mem_cons, List.not_mem_nil, or_false] at hc
      rw [hc]; exact hb
/-- a letter's outermost writing -/
noncomputable abbrev outW (c d : Int) : Str := outS ⟨(letterL c).toArray⟩ (handsOf d)
theorem out_head (c d : Int) : (outW c d).cps.toList = (rowL c d).headD [] := by
  unfold outW rowL
  rcases hands_cases d with e | ⟨h, e⟩ | ⟨h, k, e⟩ <;> rw [e] <;> rfl
/-- the page -/
noncomputable abbrev pageS (c0 d0 c1 d1 c2 d2 : Int) : Str := Str.ofString "" ++ dressS (outW c0 d0) d0 ++ dressS (outW c1 d1) d1 ++ dressS (outW c2 d2) d2
theorem strS_self (x : Str) : strS x.cps.toList = x := by obtain ⟨⟨x⟩⟩ := x; rfl
theorem page_list (c0 d0 c1 d1 c2 d2 : Int) : (pageS c0 d0 c1 d1 c2 d2).cps.toList = dressL ((rowL c0 d0).headD []) d0 ++ (dressL ((rowL c1 d1).headD []) d1 ++ dressL ((rowL c2 d2).headD []) d2) := by
  have k : ∀ c d, (dressS (outW c d) d).cps.toList = dressL ((rowL c d).headD []) d := fun c d => by
    rw [← out_head, ← dressS_eq' c d]
  unfold pageS
  simp only [Str.cps_append, Array.toList_append]
  rw [k, k, k, show (Str.ofString "").cps.toList = [] from by decide +kernel, List.nil_append, List.append_assoc]
where
  dressS_eq' (c d : Int) : (dressS (outW c d) d).cps.toList = dressL (outW c d).cps.toList d := by
    have := dressS_eq (outW c d).cps.toList d
    rw [strS_self] at this
    rw [this]
theorem page_lt (c0 d0 c1 d1 c2 d2 : Int) : ∀ c ∈ (pageS c0 d0 c1 d1 c2 d2).cps.toList, c < 1114112 := by
  have k : ∀ c d, SmL ((rowL c d).headD []) := fun c d => by
    rw [← out_head]; exact out_lt _ _ (letter_lt c)
  intro c hc
  rw [page_list] at hc
  rcases List.mem_append.mp hc with hc | hc
  · exact dress_lt _ (k _ _) c hc
  rcases List.mem_append.mp hc with hc | hc
  · exact dress_lt _ (k _ _) c hc
  · exact dress_lt _ (k _ _) c hc
theorem page_len (c0 d0 c1 d1 c2 d2 : Int) : (pageS c0 d0 c1 d1 c2 d2).cps.toList.length ≤ 10000 := by
  have k : ∀ c d, (dressS (outW c d) d).cps.toList.length ≤ 300 := fun c d => by
    have := dress_len d (out_len2 c d)
    rw [Array.length_toList]; exact this
  have a := k c0 d0
  have b := k c1 d1
  have c := k c2 d2
  unfold pageS
  simp only [Str.cps_append, Array.toList_append, List.length_append]
  rw [show (Str.ofString "").cps.toList = [] from by decide +kernel, List.length_nil]
  omega
/-- the first words read -/
noncomputable def wholeW (c0 d0 c1 d1 c2 d2 : Int) : List (List Nat) := rowL c0 d0 ++ (rowL c1 d1 ++ (rowL c2 d2 ++ [[]]))
theorem page_turns (c0 d0 c1 d1 c2 d2 : Int) : turnsG 10 [] (pageS c0 d0 c1 d1 c2 d2).cps.toList = (wholeW c0 d0 c1 d1 c2 d2, [], []) := by
  rw [page_list]
  unfold wholeW
  obtain ⟨a, ra, ea, ha, la⟩ := row_facts c0 d0
  obtain ⟨b, rb, eb, hb, lb⟩ := row_facts c1 d1
  obtain ⟨c, rc, ec, hc, lc⟩ := row_facts c2 d2
  rw [ea, eb, ec]
  exact page_all d0 d1 d2 ha hb hc la lb lc
noncomputable def roundsW (c0 d0 c1 d1 c2 d2 : Int) : List (List Nat) :=
  headsR [rowL c0 d0, rowL c1 d1, rowL c2 d2] ++ (headsR (nextR' [rowL c0 d0, rowL c1 d1, rowL c2 d2]) ++ (headsR (nextR' (nextR' [rowL c0 d0, rowL c1 d1, rowL c2 d2])) ++ [[]]))
theorem rounds_turns (c0 d0 c1 d1 c2 d2 : Int) : turnsG 10 [(outW c0 d0).cps.toList, (outW c1 d1).cps.toList, (outW c2 d2).cps.toList] [] = (roundsW c0 d0 c1 d1 c2 d2, [], []) := by
  rw [out_head, out_head, out_head]
  obtain ⟨a, ra, ea, ha, la⟩ := row_facts c0 d0
  obtain ⟨b, rb, eb, hb, lb⟩ := row_facts c1 d1
  obtain ⟨c, rc, ec, hc, lc⟩ := row_facts c2 d2
  refine rounds_all (R := [rowL c0 d0, rowL c1 d1, rowL c2 d2]) ?_ ?_ (Nat.le_refl _)
  · intro r hr
    simp only [List.mem_cons, List.not_mem_nil, or_false] at hr
    rcases hr with rfl | rfl | rfl
    · rw [ea]; exact ha
    · rw [eb]; exact hb
    · rw [ec]; exact hc
  · intro r hr
    simp only [List.mem_cons, List.not_mem_nil, or_false] at hr
    rcases hr with rfl | rfl | rfl
    · rw [ea]; exact la
    · rw [eb]; exact lb
    · rw [ec]; exact lc
end Mine
namespace Mine
theorem two_strs {x : Str} {t u : Tok} : StrsAre [.str (Str.ofString "") t, .str x u] ([[], x.cps.toList].map strS) := by
  have e : strS [] = Str.ofString "" := by decide +kernel
  show StrsAre _ [strS [], strS x.cps.toList]
  rw [e, strS_self]
  exact .cons _ _ (.cons _ _ .nil)
theorem three_strs {x y z : Str} {t u v : Tok} : StrsAre [.str x t, .str y u, .str z v] ([x.cps.toList, y.cps.toList, z.cps.toList].map strS) := by
  show StrsAre _ [strS x.cps.toList, strS y.cps.toList, strS z.cps.toList]
  rw [strS_self, strS_self, strS_self]
  exact .cons _ _ (.cons _ _ (.cons _ _ .nil))
theorem out_ten (c d : Int) : (outW c d).cps.toList.length ≤ 10000 := by
  have := out_len2 c d
  rw [Array.length_toList]
  exact Nat.le_trans this (by decide)
theorem three_len (c0 d0 c1 d1 c2 d2 : Int) : ∀ y ∈ [(outW c0 d0).cps.toList, (outW c1 d1).cps.toList, (outW c2 d2).cps.toList], y.length ≤ 10000 := by
  intro y hy
  simp only [List.mem_cons, List.not_mem_nil, or_false] at hy
  rcases hy with rfl | rfl | rfl <;> exact out_ten _ _
end Mine
end
section
open PySem PySem.W PySem.Calls PyProof.Rows PyProof.V
namespace Mine
theorem turn2_0 (elt t0 i0 t1 i1 : Expr) (ifs : List Expr) (scope : Scope) (pos : Pos) (it acc : Value) (env : Env) :
    compTurn (.ListComp elt [⟨t0, i0, [], 0⟩, ⟨t1, i1, ifs, 0⟩] scope pos) 0 it acc env = (standAt i0.pos >>= fun _ => pyNext it >>= fun r => match r with
      | none => pure (.done .next)
      | some v => letOwnedTupleGo t0 it v >>= fun _ => assign t0 env v >>= fun _ =>
        eval i1 env >>= fun x => standAt i1.pos >>= fun _ => foldedSetIterable i1 env x >>= fun x => holding [x] (pyIter x) >>= fun it' =>
          runOwn (.compStart (.ListComp elt [⟨t0, i0, [], 0⟩, ⟨t1, i1, ifs, 0⟩] scope pos) 1 it' acc env) env >>= fun _ =>
          again (.compLoop (.ListComp elt [⟨t0, i0, [], 0⟩, ⟨t1, i1, ifs, 0⟩] scope pos) 0 it acc env)) := by rfl
theorem turn2_1 (elt t0 i0 t1 i1 : Expr) (ifs : List Expr) (scope : Scope) (pos : Pos) (it acc : Value) (env : Env) :
    compTurn (.ListComp elt [⟨t0, i0, [], 0⟩, ⟨t1, i1, ifs, 0⟩] scope pos) 1 it acc env = (do
      standAt i1.pos
      match ← pyNext it with
      | none => pure (.done .next)
      | some v =>
        letOwnedTupleGo t1 it v
        assign t1 env v
        let mut ok := true
        for c in ifs do
          if ok then ok ← isTrue c env (eval c env)
        if ok then
          (do let _ ← call (.builtin "list.append") [acc, ← eval elt env])
        again (.compLoop (.ListComp elt [⟨t0, i0, [], 0⟩, ⟨t1, i1, ifs, 0⟩] scope pos) 1 it acc env)) := by rfl
section
variable {prog : Program} {w : World} {A : Around} {E : Value → Shared → Prop} {R : Result → Shared → Prop} {s : Shared}
theorem start2_1 {elt t0 i0 t1 i1 : Expr} {ifs : List Expr} {scope : Scope} {pos : Pos} {it acc : Value} {env : Env}
    (h0 : codeAny (model prog w) A (.compLoop (.ListComp elt [⟨t0, i0, [], 0⟩, ⟨t1, i1, ifs, 0⟩] scope pos) 1 it acc env) R s)
    (h : wpAny (model prog w) A (pyIter it) (fun it' s' => codeAny (model prog w) A (.compLoop (.ListComp elt [⟨t0, i0, [], 0⟩, ⟨t1, i1, ifs, 0⟩] scope pos) 1 it' acc env) R s')
      (notedBy (model prog w) A env fun x s' => R (.error x) s') s) :
    codeAny (model prog w) A (.compStart (.ListComp elt [⟨t0, i0, [], 0⟩, ⟨t1, i1, ifs, 0⟩] scope pos) 1 it acc env) R s := by
  refine codeAny_of_tree ?_
  show wpAny _ _ ((compStart (.ListComp elt [⟨t0, i0, [], 0⟩, ⟨t1, i1, ifs, 0⟩] scope pos) 1 it acc env).onRaise (fun x => do noteFrame x env; standAt theWindowsPlace)) _ _ s
  refine wpAny_notedAt ?_
  unfold compStart
  show wpAny _ _ (ask >>= _) _ _ s
  refine wpAny_bind (wpAny_askSetting (wpAny_ite ?_))
  split
  · first
      | exact wpAny_bind (wpAny_pure (wpAny_pure (And.intro rfl h0)))
      | exact wpAny_pure (And.intro rfl h0)
  · first
      | exact wpAny_bind (wpAny_rule (wpAny_bind (wpAny_standAt (wpAny_bind (wpAny_mono h (fun it' s' h' => wpAny_pure (And.intro rfl h')) fun _ _ x => x)))))
      | (refine wpAny_bind (wpAny_rule ?_); show wpAny _ _ (standAt i1.pos >>= _) _ _ s; exact wpAny_bind (wpAny_standAt (wpAny_bind (wpAny_mono h (fun it' s' h' => wpAny_pure (And.intro rfl h')) fun _ _ x => x))))
theorem loop2_1 {elt t0 i0 t1 i1 : Expr} {ifs : List Expr} {scope : Scope} {pos : Pos} {it acc : Value} {env : Env} (I : Nat → Shared → Prop)
    (turn : ∀ n s (E' : Value → Shared → Prop), I n s → wpAny (model prog w) A (pyNext it) (fun r s₁ => match r with
      | none => R (.ok .next) s₁
      | some v => wpAny (model prog w) A (assign t1 env v) (fun _ s₂ =>
          wpAny (model prog w) A (forIn ifs true fun c r => if r = true then do let ok ← isTrue c env (eval c env); pure (ForInStep.yield ok) else pure (ForInStep.yield r)) (fun ok s₃ =>
            if ok = true then wpAny (model prog w) A (eval elt env) (fun x s₄ =>
              wpAny (model prog w) A (call (.builtin "list.append") [acc, x]) (fun _ s₅ => ∃ m, m < n ∧ I m s₅) E' s₄) E' s₃
            else ∃ m, m < n ∧ I m s₃) E' s₂) E' s₁) E' s)
    (n : Nat) (h : I n s) (ht : ∀ v, letOwnedTupleGo t1 it v = pure () := by intro _; rfl) :
    codeAny (model prog w) A (.compLoop (.ListComp elt [⟨t0, i0, [], 0⟩, ⟨t1, i1, ifs, 0⟩] scope pos) 1 it acc env) R s := by
  refine codeAny_loop rfl I (fun n s hI => ?_) n h
  show wpAny _ A ((compTurn (.ListComp elt [⟨t0, i0, [], 0⟩, ⟨t1, i1, ifs, 0⟩] scope pos) 1 it acc env).onRaise (fun x => do noteFrame x env; theTreesLotGoes x)) _ _ s
  refine wpAny_noted ?_
  rw [turn2_1]
  refine wpAny_bind (wpAny_standAt (wpAny_bind (wpAny_mono (turn n s _ hI) (fun r s₁ h₁ => ?_) fun _ _ h' => h')))
  cases r with
  | none => exact wpAny_pure h₁
  | some v =>
    refine wpAny_bind (wpAny_of_eq (ht v) ?_)
    refine wpAny_bind (wpAny_mono h₁ (fun _ s₂ h₂ => wpAny_bind (wpAny_mono h₂ (fun ok s₃ h₃ => ?_) fun _ _ h' => h')) fun _ _ h' => h')
    cases ok with
    | false => exact wpAny_pure ⟨rfl, h₃⟩
    | true =>
      exact wpAny_bind (wpAny_bind (wpAny_mono h₃ (fun x s₄ h₄ => wpAny_bind (wpAny_mono h₄ (fun _ s₅ h₅ => wpAny_pure (wpAny_pure ⟨rfl, h₅⟩)) fun _ _ h' => h')) fun _ _ h' => h'))
theorem loop2_0 {elt t0 i0 t1 i1 : Expr} {ifs : List Expr} {scope : Scope} {pos : Pos} {it acc : Value} {env : Env} (I : Nat → Shared → Prop)
    (turn : ∀ n s (E' : Value → Shared → Prop), I n s → wpAny (model prog w) A (pyNext it) (fun r s₁ => match r with
      | none => R (.ok .next) s₁
      | some v => wpAny (model prog w) A (assign t0 env v) (fun _ s₂ => wpAny (model prog w) A (eval i1 env) (fun x s₃ => wpAny (model prog w) A (pyIter x) (fun it' s₄ =>
          ∀ R' : Result → Shared → Prop, (∀ f s₅, (∃ m, m < n ∧ I m s₅) → R' (.ok f) s₅) → codeAny (model prog w) A (.compStart (.ListComp elt [⟨t0, i0, [], 0⟩, ⟨t1, i1, ifs, 0⟩] scope pos) 1 it' acc env) R' s₄) E' s₃) E' s₂) E' s₁) E' s)
    (n : Nat) (h : I n s) (ht : ∀ v, letOwnedTupleGo t0 it v = pure () := by intro _; rfl) (hs : ∀ x, foldedSetIterable i1 env x = pure x := by intro _; rfl) :
    codeAny (model prog w) A (.compLoop (.ListComp elt [⟨t0, i0, [], 0⟩, ⟨t1, i1, ifs, 0⟩] scope pos) 0 it acc env) R s := by
  refine codeAny_loop rfl I (fun n s hI => ?_) n h
  show wpAny _ A ((compTurn (.ListComp elt [⟨t0, i0, [], 0⟩, ⟨t1, i1, ifs, 0⟩] scope pos) 0 it acc env).onRaise (fun x => do noteFrame x env; theTreesLotGoes x)) _ _ s
  refine wpAny_noted ?_
  rw [turn2_0]
  refine wpAny_bind (wpAny_standAt (wpAny_bind (wpAny_mono (turn n s _ hI) (fun r s₁ h₁ => ?_) fun _ _ h' => h')))
  cases r with
  | none => exact wpAny_pure h₁
  | some v =>
    refine wpAny_bind (wpAny_of_eq (ht v) ?_)
    refine wpAny_bind (wpAny_mono h₁ (fun _ s₂ h₂ => ?_) fun _ _ h' => h')
    refine wpAny_bind (wpAny_mono h₂ (fun x s₃ h₃ => ?_) fun _ _ h' => h')
    refine wpAny_bind (wpAny_standAt (wpAny_bind (wpAny_of_eq (hs x) ?_)))
    refine wpAny_bind (wpAny_holding (wpAny_mono h₃ (fun it' s₄ h₄ => ?_) fun _ _ h' => h'))
    refine wpAny_bind (wpAny_runOwn ?_)
    exact h₄ _ fun f s₅ h₅ => wpAny_pure ⟨rfl, h₅⟩
end
end Mine
end
section
open PySem PySem.W PySem.Calls PyProof.Rows PyProof.V
namespace Mine
section
variable {prog : Program} {w : World} {A : Around} {E : Value → Shared → Prop} {s : Shared} {h₀ : Heap} {L : Addr} {m : Str → Option Value} {env : Env} {news : List (Addr × Obj)}
theorem fresh_get (F : Fr h₀ L s.heap m) : h₀.get? s.heap.objs.size = none := by
  cases e : h₀.get? s.heap.objs.size with
  | none => rfl
  | some o => exact absurd (Heap.lt_size (F.keep _ _ e)) (Nat.lt_irrefl _)
theorem nsNew {H h₁ : Heap} {l : List (Addr × Obj)} {m' : Str → Option Value} (F : Fr h₀ L H m) (N : News h₀ L H l) {ob : Obj} (hn : h₁.Ns H.objs.size m') (hs : Heap.SameBut H.objs.size (H.push ob) h₁) :
    ∃ oC, LCg.NsObj oC m' ∧ Fr h₀ L h₁ m ∧ News h₀ L h₁ ((H.objs.size, oC) :: l) ∧ (∀ p ∈ l, p.1 < H.objs.size) := by
  obtain ⟨oC, hC, hoC⟩ := LCg.ns_obj hn
  have hCn : h₀.get? H.objs.size = none := by
    cases e : h₀.get? H.objs.size with
    | none => rfl
    | some o => exact absurd (Heap.lt_size (F.keep _ _ e)) (Nat.lt_irrefl _)
  have hL : H.objs.size ≠ L := Ne.symm (Nat.ne_of_lt F.ns.lt)
  refine ⟨oC, hoC, (F.push ob).change hs hL hCn, fun p hp => ?_, fun p hp => Heap.lt_size (N p hp).1⟩
  rcases List.mem_cons.mp hp with rfl | hp
  · exact ⟨hC, hL, hCn⟩
  · exact ⟨hs.extBut _ _ (Nat.ne_of_lt (Heap.lt_size (N p hp).1)) (Heap.get?_push_of_some _ (N p hp).1), (N p hp).2⟩
theorem asgC {C : Addr} {oC : Obj} {m₂ : Str → Option Value} {x : Str} {px : Pos} {v : Value} {scope : Scope} {cl : List (Str × Addr)} {Q : Unit → Shared → Prop} (F : Fr h₀ L s.heap m) (N : News h₀ L s.heap ((C, oC) :: news)) (off : ∀ p ∈ news, p.1 ≠ C) (hC : LCg.NsObj oC m₂) (hkind : scope.kind = .function) (hx : scope.names.lookup x = some .local)
    (h : ∀ oC' h' tk', LCg.NsObj oC' (fun y => if y = x then some v else m₂ y) → Fr h₀ L h' m → News h₀ L h' ((C, oC') :: news) → Q () { s with heap := h', toks := tk' }) : wpAny (model prog w) A (assign (.Name x px) (compEnvC scope cl C env) v) Q E s := by
  have D := N _ (.head _)
  refine wpAny_assign_Name (wpAny_storeName_local (lookup_relabel_local hx) (hC.ns D.1) (fun h₃ hn₃ hs₃ => ?_) (by simp [compEnvC, relabel, hkind]))
  obtain ⟨oC', hC', ho'⟩ := LCg.ns_obj hn₃
  refine h oC' h₃ _ ho' (F.change hs₃ D.2.1 D.2.2) fun p hp => ?_
  rcases List.mem_cons.mp hp with rfl | hp
  · exact ⟨hC', D.2⟩
  · exact ⟨hs₃.extBut _ _ (off p hp) (N p (.tail _ hp)).1, (N p (.tail _ hp)).2⟩
theorem appC {D : Addr} {ys : List Value} {c : Nat} {v : Value} {Q : Value → Shared → Prop} (F : Fr h₀ L s.heap m) (N : News h₀ L s.heap ((D, listOf ys.toArray c) :: news)) (off : ∀ p ∈ news, p.1 ≠ D) (hsz : ys.length ≤ sizeLine)
    (h : ∀ h', Fr h₀ L h' m → News h₀ L h' ((D, listOf (ys ++ [v]).toArray (c + 1)) :: news) → Q .none { s with heap := h' }) : wpAny (model prog w) A (call (.builtin "list.append") [.ref D, v]) Q E s := by
  have Z := N _ (.head _)
  refine append_at (hsz := by rw [List.size_toArray]; exact hsz) Z.1 fun h₅ hs₅ hD₅ => ?_
  refine h h₅ (F.change hs₅ Z.2.1 Z.2.2) fun p hp => ?_
  rcases List.mem_cons.mp hp with rfl | hp
  · exact ⟨by rw [hD₅, List.push_toArray], Z.2⟩
  · exact ⟨hs₅.extBut _ _ (off p hp) (N p (.tail _ hp)).1, (N p (.tail _ hp)).2⟩
/-- what the outer loop of a comprehension walks -/
structure Out (prog : Program) (w : World) (A : Around) (h₀ : Heap) (L : Addr) (m : Str → Option Value) (news : List (Addr × Obj)) (n : Nat) (OA : Obj → Nat → Prop) (OV : Nat → Value → Prop) : Prop where
  step : ∀ {s : Shared} {Q : Option Value → Shared → Prop} {E : Value → Shared → Prop} {I : Addr} {oI : Obj} {rest : List (Addr × Obj)} {i : Nat}, Fr h₀ L s.heap m → News h₀ L s.heap ((I, oI) :: rest) → (∀ p ∈ rest, p.1 ≠ I) → (∀ p ∈ news, p ∈ rest) → OA oI i → i < n →
    (∀ v h' oI' tk', OV i v → OA oI' (i + 1) → Fr h₀ L h' m → News h₀ L h' ((I, oI') :: rest) → Q (some v) { s with heap := h', toks := tk' }) → wpAny (model prog w) A (pyNext (.ref I)) Q E s
  stop : ∀ {s : Shared} {Q : Option Value → Shared → Prop} {E : Value → Shared → Prop} {I : Addr} {oI : Obj} {rest : List (Addr × Obj)}, Fr h₀ L s.heap m → News h₀ L s.heap ((I, oI) :: rest) → (∀ p ∈ rest, p.1 ≠ I) → (∀ p ∈ news, p ∈ rest) → OA oI n →
    (∀ h' tk', Fr h₀ L h' m → News h₀ L h' rest → Q none { s with heap := h', toks := tk' }) → wpAny (model prog w) A (pyNext (.ref I)) Q E s
  self : ∀ {s : Shared} {Q : Value → Shared → Prop} {E : Value → Shared → Prop} {I : Addr} {oI : Obj} {i : Nat}, s.heap.get? I = some oI → OA oI i → Q (.ref I) s → wpAny (model prog w) A (pyIter (.ref I)) Q E s
theorem out_list {l : Addr} {items : Array Value} {n : Nat} (hh : A.handled = none) (hl : (l, listOf items n) ∈ news) : Out prog w A h₀ L m news items.size (fun o i => ItIs o l i) (fun i v => items[i]? = some v) where
  step F N off sub oa hi h := by
    refine nextL F N off oa (sub _ hl) (Array.getElem?_eq_getElem hi) fun h' oI' hI' F' N' => ?_
    exact h _ h' oI' _ (Array.getElem?_eq_getElem hi) hI' F' N'
  stop F N off sub oa h := by
    refine endL F N off oa (sub _ hl) (Array.getElem?_eq_none (Nat.le_refl _)) hh fun h' F' N' => ?_
    exact h h' _ F' N'
  self hg oa h := wpAny_pyIter_listiter ⟨_, hg, oa.1, oa.2⟩ h
theorem out_range {n : Nat} (hh : A.handled = none) : Out prog w A h₀ L m news n (fun o i => o = W.itR (i : Int) ((n : Int) - (i : Int))) (fun i v => ∃ t, v = .int (i : Int) t) where
  step {s Q E I oI rest i} F N off sub oa hi h := by
    have oa' : oI = W.itR (i : Int) ((n : Int) - (i : Int)) := oa
    subst oa'
    exact nextR hh F N off hi fun t h' tk F' N' => h _ h' _ tk ⟨t, rfl⟩ rfl F' N'
  stop {s Q E I oI rest} F N off sub oa h := by
    have oa' : oI = W.itR (n : Int) ((n : Int) - (n : Int)) := oa
    subst oa'
    exact endR hh F N off fun h' tk F' N' => h h' tk F' N'
  self {s Q E I oI i} hg oa h := by
    have oa' : oI = W.itR (i : Int) ((n : Int) - (i : Int)) := oa
    subst oa'
    have st : IsRangeIter s.heap I (0 + (i : Nat) * 1) ((n : Int) - (i : Nat)) 1 := by
      rw [Int.mul_one, Int.zero_add]; exact hg
    exact (Walks.range (prog := prog) (w := w) (A := A) hh I 0 1 n).self i s Q E st h
/-- what a comprehension of two loops gives, after i turns of the outer one -/
noncomputable def accS (f : Nat → Nat → Option Str) (len : Nat → Nat) (i : Nat) : List Str := (List.range i).flatMap fun a => (List.range (len a)).filterMap (f a)
theorem acc_succ (f : Nat → Nat → Option Str) (len : Nat → Nat) (i : Nat) : accS f len (i + 1) = accS f len i ++ (List.range (len i)).filterMap (f i) := by
  unfold accS
  rw [List.range_succ, List.flatMap_append]
  simp
end
end Mine
end
section
open PySem PySem.W PySem.Calls PyProof.Rows PyProof.V
namespace Mine
section
variable {prog : Program} {w : World} {A : Around} {E : Value → Shared → Prop} {s : Shared} {h₀ : Heap} {L : Addr} {m : Str → Option Value} {env : Env} {news : List (Addr × Obj)}
theorem mem4 {a b c d : Addr × Obj} {l : List (Addr × Obj)} : ∀ p ∈ a :: b :: c :: d :: l, p ∈ c :: a :: b :: d :: l := fun p hp => by
  simp only [List.mem_cons] at hp ⊢
  rcases hp with h | h | h | h | h <;> simp [h]
theorem mem4' {a b c d : Addr × Obj} {l : List (Addr × Obj)} : ∀ p ∈ c :: a :: b :: d :: l, p ∈ a :: b :: c :: d :: l := fun p hp => by
  simp only [List.mem_cons] at hp ⊢
  rcases hp with h | h | h | h | h <;> simp [h]
theorem mem5 {a b c d : Addr × Obj} {l : List (Addr × Obj)} : ∀ p ∈ d :: a :: b :: c :: l, p ∈ a :: b :: c :: d :: l := fun p hp => by
  simp only [List.mem_cons] at hp ⊢
  rcases hp with h | h | h | h | h <;> simp [h]
theorem mem5' {a b c d : Addr × Obj} {l : List (Addr × Obj)} : ∀ p ∈ a :: b :: c :: d :: l, p ∈ d :: a :: b :: c :: l := fun p hp => by
  simp only [List.mem_cons] at hp ⊢
  rcases hp with h | h | h | h | h <;> simp [h]
theorem mem3 {a b c : Addr × Obj} {l : List (Addr × Obj)} : ∀ p ∈ a :: b :: c :: l, p ∈ b :: a :: c :: l := fun p hp => by
  simp only [List.mem_cons] at hp ⊢
  rcases hp with h | h | h | h <;> simp [h]
/-- one turn's answer of the inner loop: the ledger as it was -/
noncomputable def ElOk (h₀ : Heap) (L : Addr) (m : Str → Option Value) (s : Shared) (nw : List (Addr × Obj)) (P : Value → Prop) (y : Value) (s₂ : Shared) : Prop := ∃ h' tk', P y ∧ s₂ = { s with heap := h', toks := tk' } ∧ Fr h₀ L h' m ∧ News h₀ L h' nw
noncomputable def TeOk (prog : Program) (w : World) (A : Around) (h₀ : Heap) (L : Addr) (m : Str → Option Value) (s : Shared) (nw : List (Addr × Obj)) (elt : Expr) (cenv : Env) (E' : Value → Shared → Prop) (r : Option Str) (ok : Bool) (s₂ : Shared) : Prop :=
  ∃ h' tk', s₂ = { s with heap := h', toks := tk' } ∧ Fr h₀ L h' m ∧ News h₀ L h' nw ∧
    (if ok = true then ∃ z, r = some z ∧ wpAny (model prog w) A (eval elt cenv) (ElOk h₀ L m s₂ nw (fun y => ∃ t, y = .str z t)) E' s₂ else r = none)
/-- a comprehension of two loops: the inner one over lists of the ledger -/
theorem comp2 {elt i0 i1 : Expr} {ifs : List Expr} {x y : Str} {px py : Pos} {scope : Scope} {cl : List (Str × Addr)} {pos : Pos} {Q : Value → Shared → Prop}
    {n : Nat} {OA : Obj → Nat → Prop} {OV : Nat → Value → Prop} (r : Nat → Addr) (its : Nat → List Value) (kk : Nat → Nat) (f : Nat → Nat → Option Str)
    (hclos : closureFor scope env = pure cl) (hcell : ∀ y ∈ scope.names, y.2 ≠ .cell) (hkind : scope.kind = .function)
    (hnames : ∀ y ∈ scope.names, y.2 = .local → scope.names.lookup y.1 = some .local) (hx : scope.names.lookup x = some .local) (hy : scope.names.lookup y = some .local) (hxy : x ≠ y) (hh : A.handled = none)
    (O : Out prog w A h₀ L m news n OA OV) (hr : ∀ i, i < n → (r i, listOf (its i).toArray (kk i)) ∈ news) (hl : ∀ i, i < n → (its i).length ≤ 100) (hn : n ≤ 100)
    (h : wpAny (model prog w) A (eval i0 env) (fun xv s₁ => wpAny (model prog w) A (pyIter xv) (fun itv s₂ => ∃ I oI h' tk', itv = .ref I ∧ s₂ = { s with heap := h', toks := tk' } ∧ Fr h₀ L h' m ∧ News h₀ L h' ((I, oI) :: news) ∧ (∀ p ∈ news, p.1 < I) ∧ OA oI 0) E s₁) E s)
    (hi1 : ∀ i v I oI C oC m₂ D oD h tk (E' : Value → Shared → Prop), i < n → OV i v → LCg.NsObj oC m₂ → m₂ x = some v → Fr h₀ L h m → News h₀ L h ((I, oI) :: (C, oC) :: (D, oD) :: news) → LCg.Off3 I C D news →
      wpAny (model prog w) A (eval i1 (compEnvC scope cl C env)) (ElOk h₀ L m { s with heap := h, toks := tk } ((I, oI) :: (C, oC) :: (D, oD) :: news) (fun y => y = .ref (r i))) E' { s with heap := h, toks := tk })
    (hte : ∀ i v j u J oJ I oI C oC m₂ D oD h tk (E' : Value → Shared → Prop), i < n → OV i v → (its i).toArray[j]? = some u → LCg.NsObj oC m₂ → m₂ x = some v → m₂ y = some u → Fr h₀ L h m → News h₀ L h ((J, oJ) :: (I, oI) :: (C, oC) :: (D, oD) :: news) → LCg.Off3 I C D news →
      wpAny (model prog w) A (forIn ifs true fun c r => if r = true then do let ok ← isTrue c (compEnvC scope cl C env) (eval c (compEnvC scope cl C env)); pure (ForInStep.yield ok) else pure (ForInStep.yield r))
        (TeOk prog w A h₀ L m { s with heap := h, toks := tk } ((J, oJ) :: (I, oI) :: (C, oC) :: (D, oD) :: news) elt (compEnvC scope cl C env) E' (f i j)) E' { s with heap := h, toks := tk })
    (fin : ∀ D ys c h tk, StrsAre ys (accS f (fun i => (its i).length) n) → Fr h₀ L h m → News h₀ L h ((D, listOf ys.toArray c) :: news) → (∀ q ∈ news, q.1 < D) → Q (.ref D) { s with heap := h, toks := tk })
    (hs : ∀ x, foldedSetIterable i0 env x = pure x := by intro _; rfl) (hs1 : ∀ C x, foldedSetIterable i1 (compEnvC scope cl C env) x = pure x := by intro _ _; rfl) :
    wpAny (model prog w) A (eval (.ListComp elt [⟨.Name x px, i0, [], 0⟩, ⟨.Name y py, i1, ifs, 0⟩] scope pos) env) Q E s := by
  rw [eval_ListComp]
  refine wpAny_comprehension_free (use := none) rfl hs hclos hkind hnames (wpAny_mono h (fun xv s₁ h₁ => wpAny_mono h₁ (fun itv s₂ h₂ => ?_) fun _ _ e => e) fun _ _ e => e)
  obtain ⟨I, oI, h2, tk2, rfl, rfl, F2, N2, hltI, oa⟩ := h₂
  refine newList_B F2 N2 (fun D h3 F3 N3 hltD hLD => ?_)
  refine wpAny_newFunctionEnv hcell (by intro y hy; simp at hy) (fun h4 hns4 hsb4 => ?_) hkind
  dsimp only at hns4 hsb4 ⊢
  obtain ⟨oC, hoC, F4, N4, hltC⟩ := nsNew F3 N3 hns4 hsb4
  generalize h3.objs.size = C at *
  have ltID : @LT.lt Nat _ I D := hltD _ (.head _)
  have ltDC : @LT.lt Nat _ D C := hltC _ (.head _)
  have ltIC : @LT.lt Nat _ I C := Nat.lt_trans ltID ltDC
  have nI : ∀ p ∈ news, p.1 ≠ I := fun p hp => Nat.ne_of_lt (hltI p hp)
  have nD : ∀ p ∈ news, p.1 ≠ D := fun p hp => Nat.ne_of_lt (hltD p (.tail _ hp))
  have nC : ∀ p ∈ news, p.1 ≠ C := fun p hp => Nat.ne_of_lt (hltC p (.tail _ (.tail _ hp)))
  have off3 : LCg.Off3 I C D news := LCg.Off3.of fun p hp => ⟨nI p hp, nC p hp, nD p hp⟩
  have IC : I ≠ C := Nat.ne_of_lt ltIC
  have ID : I ≠ D := Nat.ne_of_lt ltID
  have DC : D ≠ C := Nat.ne_of_lt ltDC
  have off1 : ∀ {oC oD : Obj}, ∀ p ∈ (C, oC) :: (D, oD) :: news, p.1 ≠ I := fun {oC oD} p hp => by
    rcases List.mem_cons.mp hp with rfl | hp
    · exact Ne.symm IC
    rcases List.mem_cons.mp hp with rfl | hp
    · exact Ne.symm ID
    · exact nI p hp
  have sub1 : ∀ {oC oD : Obj}, ∀ p ∈ news, p ∈ (C, oC) :: (D, oD) :: news := fun {oC oD} p hp => .tail _ (.tail _ hp)
  have main : ∀ s₃ : Shared, (∃ m2 oC tk, LCg.NsObj oC m2 ∧ s₃ = { s with heap := h4, toks := tk } ∧ News h₀ L h4 ((I, oI) :: (C, oC) :: (D, listOf ([] : List Value).toArray 0) :: news)) →
      codeAny (model prog w) A (.compLoop (.ListComp elt [⟨.Name x px, i0, [], 0⟩, ⟨.Name y py, i1, ifs, 0⟩] scope pos) 0 (.ref I) (.ref D) (compEnvC scope cl C env)) (compPost (model prog w) A E none Q (.ref D) C) s₃ := by
    rintro s₃ ⟨m2, oC', tk3, hC3, rfl, N5⟩
    refine sameI (fun (k : Nat) (s' : Shared) => ∃ i oI oC m2 ys c h tk, s' = { s with heap := h, toks := tk } ∧ i ≤ n ∧ k = n - i ∧ OA oI i ∧ LCg.NsObj oC m2 ∧ StrsAre ys (accS f (fun i => (its i).length) i) ∧ ys.length ≤ 100 * i ∧ Fr h₀ L h m ∧
        News h₀ L h ((I, oI) :: (C, oC) :: (D, listOf ys.toArray c) :: news)) (fun V hV => ?_)
    refine loop2_0 V ?_ n (hV.of2 ⟨0, oI, oC', m2, [], 0, h4, _, rfl, Nat.zero_le _, rfl, oa, hC3, .nil, Nat.zero_le _, F4, N5⟩) (hs := hs1 C)
    intro k s' E' hz8
    obtain ⟨i, oI', oC', m2, ys, c, h', tk', rfl, hin, rfl, oa', hC', hys, hyl, F', N'⟩ := hV.to2 hz8
    clear hz8
    obtain hi | hi := Nat.lt_or_ge i n
    · refine O.step F' N' off1 sub1 oa' hi fun v h5 oI5 tk5 ov oa5 F5 N5 => ?_
      have N6 : News h₀ L h5 ((C, oC') :: (I, oI5) :: (D, listOf ys.toArray c) :: news) := news_perm N5 mem3
      have offC : ∀ p ∈ (I, oI5) :: (D, listOf ys.toArray c) :: news, p.1 ≠ C := fun p hp => by
        rcases List.mem_cons.mp hp with rfl | hp
        · exact IC
        rcases List.mem_cons.mp hp with rfl | hp
        · exact DC
        · exact nC p hp
      refine asgC F5 N6 offC hC' hkind hx fun oC7 h7 tk7 hC7 F7 N7 => ?_
      have N8 := news_perm N7 mem3
      refine wpAny_mono (hi1 i v I oI5 C oC7 _ D _ h7 tk7 E' hi ov hC7 (by simp) F7 N8 off3) (fun xv s8 h8 => ?_) fun _ _ e => e
      obtain ⟨h8, tk8, rfl, rfl, F8, N8⟩ := h8
      refine iterL F8 N8 (.tail _ (.tail _ (.tail _ (hr i hi)))) fun J oJ h9 hJ F9 N9 hltJ => ?_
      intro R' hR'
      have nJ : ∀ {oI oC oD : Obj}, ∀ p ∈ (I, oI) :: (C, oC) :: (D, oD) :: news, p.1 ≠ J := fun {oI oC oD} p hp => by
        rcases List.mem_cons.mp hp with rfl | hp
        · exact Nat.ne_of_lt (hltJ (I, oI5) (.head _))
        rcases List.mem_cons.mp hp with rfl | hp
        · exact Nat.ne_of_lt (hltJ (C, oC7) (.tail _ (.head _)))
        rcases List.mem_cons.mp hp with rfl | hp
        · exact Nat.ne_of_lt (hltJ (D, listOf ys.toArray c) (.tail _ (.tail _ (.head _))))
        · exact Nat.ne_of_lt (hltJ p (.tail _ (.tail _ (.tail _ hp))))
      have JC : J ≠ C := Ne.symm (nJ (oI := oI) (oC := oC) (oD := oC) (C, oC) (.tail _ (.head _)))
      have JD : J ≠ D := Ne.symm (nJ (oI := oI) (oC := oC) (oD := oC) (D, oC) (.tail _ (.tail _ (.head _))))
      have inner : codeAny (model prog w) A (.compLoop (.ListComp elt [⟨.Name x px, i0, [], 0⟩, ⟨.Name y py, i1, ifs, 0⟩] scope pos) 1 (.ref J) (.ref D) (compEnvC scope cl C env)) R' { s with heap := h9, toks := tk8 } := by
        refine sameI (fun (k : Nat) (s' : Shared) => ∃ j oJ oC m2 ys c h tk, s' = { s with heap := h, toks := tk } ∧ j ≤ (its i).length ∧ k = (its i).length - j ∧ ItIs oJ (r i) j ∧ LCg.NsObj oC m2 ∧ m2 x = some v ∧
            StrsAre ys (accS f (fun i => (its i).length) i ++ (List.range j).filterMap (f i)) ∧ ys.length ≤ 100 * i + j ∧ Fr h₀ L h m ∧ News h₀ L h ((J, oJ) :: (I, oI5) :: (C, oC) :: (D, listOf ys.toArray c) :: news)) (fun V2 hV2 => ?_)
        refine loop2_1 V2 ?_ (its i).length (hV2.of2 ⟨0, oJ, oC7, _, ys, c, h9, _, rfl, Nat.zero_le _, rfl, hJ, hC7, by simp, by simpa using hys, hyl, F9, N9⟩)
        intro k2 s2 E2 hz9'
        obtain ⟨j, oJ', oC', m3, zs, c', hA, tkA, rfl, hjn, rfl, hJ', hC3, hm3, hzs, hzl, FA, NA⟩ := hV2.to2 hz9'
        clear hz9'
        have hz9 := hl i hi
        obtain hj | hj := Nat.lt_or_ge j (its i).length
        · have hu : (its i).toArray[j]? = some ((its i)[j]) := by simp [hj]
          refine nextL FA NA nJ hJ' (.tail _ (.tail _ (.tail _ (hr i hi)))) hu fun hB oJB hJB FB NB => ?_
          have NB' : News h₀ L hB ((C, oC') :: (J, oJB) :: (I, oI5) :: (D, listOf zs.toArray c') :: news) := news_perm NB mem4'
          have offC2 : ∀ p ∈ (J, oJB) :: (I, oI5) :: (D, listOf zs.toArray c') :: news, p.1 ≠ C := fun p hp => by
            rcases List.mem_cons.mp hp with rfl | hp
            · exact JC
            · rcases List.mem_cons.mp hp with rfl | hp
              · exact IC
              rcases List.mem_cons.mp hp with rfl | hp
              · exact DC
              · exact nC p hp
          refine asgC FB NB' offC2 hC3 hkind hy fun oCC hCb tkC hCC FC NC => ?_
          have NC' := news_perm NC mem4
          refine wpAny_mono (hte i v j _ J oJB I oI5 C oCC _ D _ hCb tkC E2 hi ov hu hCC (by simp [hxy, hm3]) (by simp) FC NC' off3) (fun ok s9 hq => ?_) fun _ _ e => e
          obtain ⟨hD, tkD, rfl, FD, ND, hq⟩ := hq
          cases ok with
          | true =>
            simp only [if_true] at hq ⊢
            obtain ⟨z, hz, hev⟩ := hq
            refine wpAny_mono hev (fun yv s10 h10 => ?_) fun _ _ e => e
            obtain ⟨hE, tkE, ⟨t, rfl⟩, rfl, FE, NE⟩ := h10
            have NE' : News h₀ L hE ((D, listOf zs.toArray c') :: (J, oJB) :: (I, oI5) :: (C, oCC) :: news) := news_perm NE mem5
            have offD : ∀ p ∈ (J, oJB) :: (I, oI5) :: (C, oCC) :: news, p.1 ≠ D := fun p hp => by
              rcases List.mem_cons.mp hp with rfl | hp
              · exact JD
              rcases List.mem_cons.mp hp with rfl | hp
              · exact ID
              rcases List.mem_cons.mp hp with rfl | hp
              · exact Ne.symm DC
              · exact nD p hp
            refine appC FE NE' offD (by rw [PySem.sizeLine_eq]; omega) fun hF FF NF => ?_
            refine ⟨(its i).length - (j + 1), by omega, hV2.of2 ⟨j + 1, oJB, oCC, _, zs ++ [.str z t], c' + 1, hF, tkE, rfl, hj, rfl, hJB, hCC, by simp [hxy, hm3], ?_, ?_, FF, news_perm NF mem5'⟩⟩
            · rw [List.range_succ, List.filterMap_append, ← List.append_assoc]
              simp only [List.filterMap_cons, List.filterMap_nil, hz]
              exact strs_snoc hzs
            · rw [List.length_append, List.length_singleton]; omega
          | false =>
            simp only [Bool.false_eq_true, if_false] at hq ⊢
            refine ⟨(its i).length - (j + 1), by omega, hV2.of2 ⟨j + 1, oJB, oCC, _, zs, c', hD, tkD, rfl, hj, rfl, hJB, hCC, by simp [hxy, hm3], ?_, by omega, FD, ND⟩⟩
            rw [List.range_succ, List.filterMap_append]
            simp only [List.filterMap_cons, List.filterMap_nil, hq, List.append_nil]
            exact hzs
        · obtain rfl : j = (its i).length := by omega
          refine endL FA NA nJ hJ' (.tail _ (.tail _ (.tail _ (hr i hi)))) (by simp) hh fun hB FB NB => ?_
          refine hR' .next _ ⟨n - (i + 1), by omega, hV.of2 ⟨i + 1, oI5, oC', m3, zs, c', hB, tkA, rfl, hi, rfl, oa5, hC3, ?_, by omega, FB, NB⟩⟩
          rw [acc_succ]; exact hzs
      exact start2_1 inner (wpAny_pyIter_listiter ⟨oJ, (N9 _ (.head _)).1, hJ.1, hJ.2⟩ inner)
    · obtain rfl : i = n := by omega
      refine O.stop F' N' off1 sub1 oa' fun h5 tk5 F5 N5 => ?_
      have Z := N5 _ (.head _)
      refine ⟨m2, hC'.ns Z.1, fun h6 hs6 => ?_⟩
      refine fin D ys c h6 tk5 hys (F5.change hs6 Z.2.1 Z.2.2) (fun p hp => ?_) (fun q hq => hltD q (.tail _ hq))
      refine ⟨hs6.extBut _ _ ?_ (N5 p (.tail _ hp)).1, (N5 p (.tail _ hp)).2⟩
      rcases List.mem_cons.mp hp with rfl | hp
      · exact DC
      · exact nC p hp
  have N5 : News h₀ L h4 ((I, oI) :: (C, oC) :: (D, listOf ([] : List Value).toArray 0) :: news) := news_perm N4 fun p hp => by
    simp only [List.mem_cons] at hp ⊢
    rcases hp with h | h | h | h <;> simp [h]
  have hm := main { s with heap := h4, toks := tk2 + ([] : List (Str × Value)).length } ⟨_, oC, _, hoC, rfl, N5⟩
  exact codeAny_compStart_list hm (O.self (N5 _ (.head _)).1 oa hm)
end
end Mine
end
section
open PySem PySem.W PySem.Calls PyProof.Rows PyProof.V
namespace Mine
theorem layers_len (c d : Int) : (layersS (strS (letterL c)) (handsOf d)).length ≤ 100 := by
  rcases hands_cases d with e | ⟨h, e⟩ | ⟨h, k, e⟩ <;> rw [e] <;> exact Nat.le_of_ble_eq_true rfl
/-- one of three -/
noncomputable def pick3 {α : Type} (a b c : α) (i : Nat) : α := if i = 0 then a else if i = 1 then b else c
theorem range_get {α : Type} (l : List α) : (List.range l.length).filterMap (fun j => l[j]?) = l := by
  have key : ∀ k, k ≤ l.length → (List.range k).filterMap (fun j => l[j]?) = l.take k := by
    intro k
    induction k with
    | zero => intro _; simp
    | succ k ih =>
      intro hk
      rw [List.range_succ, List.filterMap_append, ih (by omega), List.take_add_one]
      simp only [List.filterMap_cons, List.filterMap_nil]
      cases l[k]? <;> rfl
  rw [key _ (Nat.le_refl _), List.take_length]
theorem strs_get : ∀ {ys : List Value} {xs : List Str}, StrsAre ys xs → ∀ {j : Nat} {u : Value}, ys.toArray[j]? = some u → ∃ z t, xs[j]? = some z ∧ u = .str z t
  | _, _, .nil, _, _, h => by simp at h
  | _, _, .cons z t _, 0, u, h => ⟨z, t, rfl, by simpa using h.symm⟩
  | _, _, .cons z t r, j + 1, u, h => by
    obtain ⟨z', t', e1, e2⟩ := strs_get r (j := j) (u := u) (by simpa using h)
    exact ⟨z', t', by simpa using e1, e2⟩
section
variable {prog : Program} {w : World} {A : Around} {E : Value → Shared → Prop} {s : Shared} {h₀ : Heap} {L : Addr} {m : Str → Option Value} {env : Env} {news : List (Addr × Obj)}
theorem nameC {C : Addr} {oC : Obj} {m₂ : Str → Option Value} {x : Str} {px : Pos} {v : Value} {scope : Scope} {cl : List (Str × Addr)} {Q : Value → Shared → Prop} (hg : s.heap.get? C = some oC) (hC : LCg.NsObj oC m₂) (hkind : scope.kind = .function) (hx : scope.names.lookup x = some .local)
    (hd : (x == ("__debug__" : Str)) = false) (hm : m₂ x = some v) (h : Q v s) : wpAny (model prog w) A (eval (.Name x px) (compEnvC scope cl C env)) Q E s :=
  wpAny_Name (wpAny_loadName_local (by simp [compEnvC, relabel, hkind]) (lookup_relabel_local hx) (hC.ns hg) hm h) hd
theorem comp_whole (F₀ : Fr h₀ L s.heap m) (N₀ : News h₀ L s.heap news) {x y z : Str} {px py p1 p2 p3 : Pos} {scope : Scope} {cl : List (Str × Addr)} {pos : Pos} {Q : Value → Shared → Prop} {lay r1 r2 r3 : Addr} {y1 y2 y3 : List Value} {k1 k2 k3 kl : Nat} {x1 x2 x3 : List Str}
    (Y1 : StrsAre y1 x1) (Y2 : StrsAre y2 x2) (Y3 : StrsAre y3 x3) (l1 : x1.length ≤ 100) (l2 : x2.length ≤ 100) (l3 : x3.length ≤ 100)
    (hl : (lay, listOf #[.ref r1, .ref r2, .ref r3] kl) ∈ news) (h1 : (r1, listOf y1.toArray k1) ∈ news) (h2 : (r2, listOf y2.toArray k2) ∈ news) (h3 : (r3, listOf y3.toArray k3) ∈ news)
    (hclos : closureFor scope env = pure cl) (hcell : ∀ y ∈ scope.names, y.2 ≠ .cell) (hkind : scope.kind = .function)
    (hnames : ∀ y ∈ scope.names, y.2 = .local → scope.names.lookup y.1 = some .local) (hx : scope.names.lookup x = some .local) (hy : scope.names.lookup y = some .local) (hxy : x ≠ y) (hh : A.handled = none)
    (hdx : (x == ("__debug__" : Str)) = false) (hdy : (y == ("__debug__" : Str)) = false)
    (h : wpAny (model prog w) A (eval (.Name z p1) env) (ElOk h₀ L m s news (fun xv => xv = .ref lay)) E s)
    (fin : ∀ D ys c h tk, StrsAre ys (x1 ++ (x2 ++ x3)) → (x1 ++ (x2 ++ x3)).length ≤ 1000 → Fr h₀ L h m → News h₀ L h ((D, listOf ys.toArray c) :: news) → (∀ q ∈ news, q.1 < D) → Q (.ref D) { s with heap := h, toks := tk }) :
    wpAny (model prog w) A (eval (.ListComp (.Name y p2) [⟨.Name x px, .Name z p1, [], 0⟩, ⟨.Name y py, .Name x p3, [], 0⟩] scope pos) env) Q E s := by
  refine comp2 (h₀ := h₀) (L := L) (m := m) (n := 3) (OA := fun o i => ItIs o lay i) (OV := fun i v => #[Value.ref r1, .ref r2, .ref r3][i]? = some v) (pick3 r1 r2 r3) (pick3 y1 y2 y3) (pick3 k1 k2 k3) (fun i j => (pick3 x1 x2 x3 i)[j]?)
    hclos hcell hkind hnames hx hy hxy hh (out_list (items := #[.ref r1, .ref r2, .ref r3]) hh hl) ?_ ?_ (by decide) ?_ ?_ ?_ ?_
  · intro i hi
    obtain rfl | rfl | rfl : i = 0 ∨ i = 1 ∨ i = 2 := by omega
    · exact h1
    · exact h2
    · exact h3
  · intro i hi
    obtain rfl | rfl | rfl : i = 0 ∨ i = 1 ∨ i = 2 := by omega
    · show y1.length ≤ 100; rw [strs_length Y1]; exact l1
    · show y2.length ≤ 100; rw [strs_length Y2]; exact l2
    · show y3.length ≤ 100; rw [strs_length Y3]; exact l3
  · refine wpAny_mono h (fun xv s₁ hq => ?_) fun _ _ e => e
    obtain ⟨h', tk', rfl, rfl, F, N⟩ := hq
    exact iterL F N hl fun I oI h'' hI F' N' hlt => ⟨I, oI, h'', _, rfl, rfl, F', N', hlt, hI⟩
  · intro i v I oI C oC m₂ D oD h tk E' hi hv hC hm F N off
    have hv' : #[Value.ref r1, .ref r2, .ref r3][i]? = some v := hv
    refine nameC (N (C, oC) (.tail _ (.head _))).1 hC hkind hx hdx hm ?_
    refine ⟨h, tk, ?_, rfl, F, N⟩
    obtain rfl | rfl | rfl : i = 0 ∨ i = 1 ∨ i = 2 := by omega
    · exact (Option.some.inj hv').symm
    · exact (Option.some.inj hv').symm
    · exact (Option.some.inj hv').symm
  · intro i v j u J oJ I oI C oC m₂ D oD h tk E' hi hv hu hC hm hm2 F N off
    refine wpAny_pure ⟨h, tk, rfl, F, N, ?_⟩
    have hY : StrsAre (pick3 y1 y2 y3 i) (pick3 x1 x2 x3 i) := by
      obtain rfl | rfl | rfl : i = 0 ∨ i = 1 ∨ i = 2 := by omega
      · exact Y1
      · exact Y2
      · exact Y3
    obtain ⟨zz, t, e1, rfl⟩ := strs_get hY hu
    rw [if_pos rfl]
    refine ⟨zz, e1, ?_⟩
    refine nameC (N (C, oC) (.tail _ (.tail _ (.head _)))).1 hC hkind hy hdy hm2 ?_
    exact ⟨h, tk, ⟨t, rfl⟩, rfl, F, N⟩
  · intro D ys c h tk hys F N hlt
    refine fin D ys c h tk ?_ (by simp only [List.length_append]; omega) F N hlt
    have e : accS (fun i j => (pick3 x1 x2 x3 i)[j]?) (fun i => (pick3 y1 y2 y3 i).length) 3 = x1 ++ (x2 ++ x3) := by
      show ((List.range y1.length).filterMap (fun j => x1[j]?)) ++ (((List.range y2.length).filterMap (fun j => x2[j]?)) ++ (((List.range y3.length).filterMap (fun j => x3[j]?)) ++ [])) = _
      rw [strs_length Y1, strs_length Y2, strs_length Y3, range_get, range_get, range_get, List.append_nil]
    rw [← e]; exact hys
theorem strs_app : ∀ {vs ws : List Value} {xs zs : List Str}, StrsAre vs xs → StrsAre ws zs → StrsAre (vs ++ ws) (xs ++ zs)
  | _, _, _, _, .nil, h => h
  | _, _, _, _, .cons y t r, h => .cons y t (strs_app r h)
theorem add_strs {a b : Addr} {vs ws : List Value} {xs zs : List Str} {n1 n2 : Nat} {Q : Value → Shared → Prop} (F : Fr h₀ L s.heap m) (N : News h₀ L s.heap news) (ha : (a, listOf vs.toArray n1) ∈ news) (hb : (b, listOf ws.toArray n2) ∈ news) (Sa : StrsAre vs xs) (Sb : StrsAre ws zs) (z1 : xs.length ≤ 1000) (z2 : zs.length ≤ 1000)
    (h : ∀ D us h', StrsAre us (xs ++ zs) → Fr h₀ L h' m → News h₀ L h' ((D, listOf (List.toArray us) 0) :: news) → (∀ p ∈ news, p.1 < D) → Q (.ref D) { s with heap := h' }) : wpAny (model prog w) A (binaryOp .Add (.ref a) (.ref b)) Q E s := by
  refine kmk_add_lit (zs := vs ++ ws) F N (N.isList ha) (N.isList hb) rfl (fun D h' F' N' l => h D _ h' (strs_app Sa Sb) F' N' l) ?_
  have e1 := strs_length Sa
  have e2 := strs_length Sb
  show vs.length + ws.length ≤ sizeLine
  rw [PySem.sizeLine_eq]; omega
end
end Mine
end
section
open PySem PySem.W PySem.Calls PyProof.Rows PyProof.V
namespace Mine
/-- the words round by round -/
noncomputable def roundS (x1 x2 x3 : List Str) : List Str := accS (fun k j => (pick3 x1 x2 x3 j)[k]?) (fun _ => 3) 3
theorem fm_len {α β : Type} (f : α → Option β) (l : List α) : (l.filterMap f).length ≤ l.length := List.length_filterMap_le f l
theorem round_len (x1 x2 x3 : List Str) : (roundS x1 x2 x3).length ≤ 1000 := by
  have h : ∀ k : Nat, ((List.range 3).filterMap fun j => (pick3 x1 x2 x3 j)[k]?).length ≤ 3 := fun k => Nat.le_trans (fm_len _ _) (by decide)
  show (((List.range 3).filterMap fun j => (pick3 x1 x2 x3 j)[0]?) ++ (((List.range 3).filterMap fun j => (pick3 x1 x2 x3 j)[1]?) ++ (((List.range 3).filterMap fun j => (pick3 x1 x2 x3 j)[2]?) ++ []))).length ≤ 1000
  have h0 := h 0
  have h1 := h 1
  have h2 := h 2
  simp only [List.length_append, List.length_nil]
  omega
section
variable {prog : Program} {w : World} {A : Around} {E : Value → Shared → Prop} {s : Shared} {h₀ : Heap} {L : Addr} {m : Str → Option Value} {env : Env} {news : List (Addr × Obj)}
theorem iterR3 {r : Addr} {t u v : Tok} {Q : Value → Shared → Prop} (hr : IsRange s.heap r 0 3 1 t u v) (F : Fr h₀ L s.heap m) (N : News h₀ L s.heap news)
    (h : ∀ I h', Fr h₀ L h' m → News h₀ L h' ((I, W.itR ((0 : Nat) : Int) ((3 : Nat) - ((0 : Nat) : Int))) :: news) → (∀ p ∈ news, p.1 < I) → Q (.ref I) { s with heap := h' }) : wpAny (model prog w) A (pyIter (.ref r)) Q E s :=
  wpAny_pyIter_range hr (by decide) (h _ _ (F.push _) (News.push F N _ rfl) (fun p hp => Heap.lt_size (N p hp).1))
/-- what range(3) is -/
noncomputable def RgOk (h₀ : Heap) (L : Addr) (m : Str → Option Value) (s : Shared) (nw : List (Addr × Obj)) (y : Value) (s₂ : Shared) : Prop := ∃ q t u v h' tk', y = .ref q ∧ s₂ = { s with heap := h', toks := tk' } ∧ IsRange h' q 0 3 1 t u v ∧ Fr h₀ L h' m ∧ News h₀ L h' nw
theorem comp_rounds (F₀ : Fr h₀ L s.heap m) (N₀ : News h₀ L s.heap news) {x y : Str} {px py : Pos} {elt i0 i1 ct : Expr} {scope : Scope} {cl : List (Str × Addr)} {pos : Pos} {Q : Value → Shared → Prop} {lay r1 r2 r3 : Addr} {kl k1 k2 k3 : Nat} {x1 x2 x3 : List Str} {y1 y2 y3 : List Value} (_Y1 : StrsAre y1 x1) (_Y2 : StrsAre y2 x2) (_Y3 : StrsAre y3 x3) (_m1 : (r1, listOf y1.toArray k1) ∈ news) (_m2 : (r2, listOf y2.toArray k2) ∈ news) (_m3 : (r3, listOf y3.toArray k3) ∈ news)
    (hl : (lay, listOf #[.ref r1, .ref r2, .ref r3] kl) ∈ news)
    (hclos : closureFor scope env = pure cl) (hcell : ∀ y ∈ scope.names, y.2 ≠ .cell) (hkind : scope.kind = .function)
    (hnames : ∀ y ∈ scope.names, y.2 = .local → scope.names.lookup y.1 = some .local) (hx : scope.names.lookup x = some .local) (hy : scope.names.lookup y = some .local) (hxy : x ≠ y) (hh : A.handled = none)
    (h0 : wpAny (model prog w) A (eval i0 env) (RgOk h₀ L m s news) E s)
    (h1 : ∀ I oI C oC m₂ D oD (k : Nat) t h tk (E' : Value → Shared → Prop), LCg.NsObj oC m₂ → m₂ x = some (.int (k : Int) t) → Fr h₀ L h m → News h₀ L h ((I, oI) :: (C, oC) :: (D, oD) :: news) → LCg.Off3 I C D news →
      wpAny (model prog w) A (eval i1 (compEnvC scope cl C env)) (ElOk h₀ L m { s with heap := h, toks := tk } ((I, oI) :: (C, oC) :: (D, oD) :: news) (fun y => y = .ref lay)) E' { s with heap := h, toks := tk })
    (h2 : ∀ j J oJ I oI C oC m₂ D oD (k : Nat) t h tk (E' : Value → Shared → Prop), j < 3 → k < 3 → LCg.NsObj oC m₂ → m₂ x = some (.int (k : Int) t) → m₂ y = some (.ref (pick3 r1 r2 r3 j)) → Fr h₀ L h m → News h₀ L h ((J, oJ) :: (I, oI) :: (C, oC) :: (D, oD) :: news) → LCg.Off3 I C D news →
      wpAny (model prog w) A (forIn [ct] true fun c r => if r = true then do let ok ← isTrue c (compEnvC scope cl C env) (eval c (compEnvC scope cl C env)); pure (ForInStep.yield ok) else pure (ForInStep.yield r))
        (TeOk prog w A h₀ L m { s with heap := h, toks := tk } ((J, oJ) :: (I, oI) :: (C, oC) :: (D, oD) :: news) elt (compEnvC scope cl C env) E' ((pick3 x1 x2 x3 j)[k]?)) E' { s with heap := h, toks := tk })
    (fin : ∀ D ys c h tk, StrsAre ys (roundS x1 x2 x3) → (roundS x1 x2 x3).length ≤ 1000 → Fr h₀ L h m → News h₀ L h ((D, listOf ys.toArray c) :: news) → (∀ q ∈ news, q.1 < D) → Q (.ref D) { s with heap := h, toks := tk })
    (hs : ∀ x, foldedSetIterable i0 env x = pure x := by intro _; rfl) (hs1 : ∀ C x, foldedSetIterable i1 (compEnvC scope cl C env) x = pure x := by intro _ _; rfl) :
    wpAny (model prog w) A (eval (.ListComp elt [⟨.Name x px, i0, [], 0⟩, ⟨.Name y py, i1, [ct], 0⟩] scope pos) env) Q E s := by
  refine comp2 (h₀ := h₀) (L := L) (m := m) (n := 3) (OA := fun o i => o = W.itR (i : Int) (((3 : Nat) : Int) - (i : Int))) (OV := fun i v => ∃ t, v = .int (i : Int) t) (fun _ => lay) (fun _ => [.ref r1, .ref r2, .ref r3]) (fun _ => kl) (fun k j => (pick3 x1 x2 x3 j)[k]?)
    hclos hcell hkind hnames hx hy hxy hh (out_range hh) (fun _ _ => hl) (fun _ _ => Nat.le_of_ble_eq_true rfl) (by decide) ?_ ?_ ?_ ?_ (hs := hs) (hs1 := hs1)
  · refine wpAny_mono h0 (fun xv s₁ hq => ?_) fun _ _ e => e
    obtain ⟨q, t, u, v, h', tk', rfl, rfl, hR, F, N⟩ := hq
    exact iterR3 hR F N fun I h'' F' N' hlt => ⟨I, _, h'', _, rfl, rfl, F', N', hlt, rfl⟩
  · intro i v I oI C oC m₂ D oD h tk E' hi hv hC hm F N off
    obtain ⟨t, rfl⟩ := hv
    exact h1 I oI C oC m₂ D oD i t h tk E' hC hm F N off
  · intro i v j u J oJ I oI C oC m₂ D oD h tk E' hi hv hu hC hm hm2 F N off
    obtain ⟨t, rfl⟩ := hv
    have hj : j < 3 := by
      rcases Nat.lt_or_ge j 3 with q | q
      · exact q
      · rw [Array.getElem?_eq_none (show 3 ≤ j from q)] at hu; cases hu
    refine h2 j J oJ I oI C oC m₂ D oD i t h tk E' hj hi hC hm ?_ F N off
    rw [hm2]
    obtain rfl | rfl | rfl : j = 0 ∨ j = 1 ∨ j = 2 := by omega
    · exact hu.symm
    · exact hu.symm
    · exact hu.symm
  · intro D ys c h tk hys F N hlt
    exact fin D ys c h tk hys (round_len _ _ _) F N hlt
theorem pick3_0 {α : Type} (a b c : α) : pick3 a b c 0 = a := rfl
theorem pick3_1 {α : Type} (a b c : α) : pick3 a b c 1 = b := rfl
theorem pick3_2 {α : Type} (a b c : α) : pick3 a b c 2 = c := rfl
/-- a place in a list of texts -/
theorem strs_at : ∀ {ys : List Value} {xs : List Str}, StrsAre ys xs → ∀ {j : Nat}, j < xs.length → ∃ z t, xs[j]? = some z ∧ ys.toArray[j]? = some (.str z t)
  | _, _, .nil, _, h => absurd h (Nat.not_lt_zero _)
  | _, _, .cons z t _, 0, _ => ⟨z, t, rfl, by simp⟩
  | _, _, .cons z t r, j + 1, h => by
    obtain ⟨z', t', e1, e2⟩ := strs_at r (j := j) (Nat.lt_of_succ_lt_succ h)
    exact ⟨z', t', by simpa using e1, by simpa using e2⟩
theorem item_row {value slice : Expr} {r : Addr} {ys : List Value} {xs : List Str} {n k : Nat} {u : Tok} {Q : Value → Shared → Prop} (N : News h₀ L s.heap news) (hm : (r, listOf ys.toArray n) ∈ news) (hy : StrsAre ys xs) (hk3 : k < 3) (hk : (k : Int) < (ys.toArray.size : Int))
    (h : ∀ z t, xs[k]? = some z → Q (.str z t) s)
    (hs : subscripted slice false (.ref r) (.int k u) = operate [.ref r, .int k u] (getItem (.ref r) (.int k u)) := by with_unfolding_all rfl) :
    wpAny (model prog w) A (subscriptTail value slice (.ref r) (.int (k : Int) u)) Q E s := by
  have hl : s.heap.IsList r ys.toArray := N.isList hm
  have e1 := strs_length hy
  have hk' : k < ys.toArray.size := by omega
  obtain ⟨z, t, e2, e3⟩ := strs_at hy (j := k) (by rw [← e1]; simpa using hk')
  refine tail_any hl.typeIs slot_list_getitem.lookup ?_ hs
  exact wpAny_getItem_list hl (Int.natCast_nonneg k) (Int.lt_of_lt_of_le (Int.ofNat_lt.mpr hk3) (by decide)) e3 (h z t e2)
theorem item_row2 {value slice : Expr} {r : Addr} {ys : List Value} {xs : List Str} {n k : Nat} {u : Tok} {z : Str} {Q : Value → Shared → Prop} (N : News h₀ L s.heap news) (hm : (r, listOf ys.toArray n) ∈ news) (hy : StrsAre ys xs) (hk3 : k < 3) (hk : (k : Int) < (ys.toArray.size : Int)) (hz : xs[k]? = some z)
    (h : ∀ t, Q (.str z t) s)
    (hs : subscripted slice false (.ref r) (.int k u) = operate [.ref r, .int k u] (getItem (.ref r) (.int k u)) := by with_unfolding_all rfl) :
    wpAny (model prog w) A (subscriptTail value slice (.ref r) (.int (k : Int) u)) Q E s :=
  item_row N hm hy hk3 hk (fun z' t e => by rw [hz] at e; cases e; exact h t) hs
theorem strs_some {ys : List Value} {xs : List Str} {k : Nat} (hk : (k : Int) < (ys.toArray.size : Int)) (hy : StrsAre ys xs) : ∃ z, xs[k]? = some z := by
  have e1 := strs_length hy
  rw [List.size_toArray] at hk
  obtain ⟨z, t, e2, e3⟩ := strs_at hy (j := k) (by omega)
  exact ⟨z, e2⟩
theorem te_if {k : Nat} {ys : List Value} {xs : List Str} (hy : StrsAre ys xs) {P : Str → Prop} (h : ∀ z, (k : Int) < (ys.toArray.size : Int) → xs[k]? = some z → P z) :
    (if decide ((k : Int) < (ys.toArray.size : Int)) = true then ∃ z, xs[k]? = some z ∧ P z else xs[k]? = none) := by
  have e1 := strs_length hy
  by_cases hq : (k : Int) < (ys.toArray.size : Int)
  · rw [if_pos (decide_eq_true hq)]
    obtain ⟨z, hz⟩ := strs_some hq hy
    exact ⟨z, hz, h z hq hz⟩
  · rw [if_neg (by rw [decide_eq_false hq]; exact Bool.false_ne_true)]
    rw [List.size_toArray] at hq
    rw [List.getElem?_eq_none]; omega
theorem lenRow {r : Addr} {ys : List Value} {xs : List Str} {n : Nat} {Q : Value → Shared → Prop} (N : News h₀ L s.heap news) (hm : (r, listOf ys.toArray n) ∈ news) (hy : StrsAre ys xs) (hx : xs.length ≤ 100) (h : Q (.int (ys.toArray.size : Int) (s.toks + 1)) { s with toks := s.toks + 1 + 1 }) :
    wpAny (model prog w) A (call (.builtin "len") [.ref r]) Q E s := by
  have e1 := strs_length hy
  exact kun_lenL (N.isList hm) rfl (by rw [List.size_toArray]; omega) h
theorem row_none {ys : List Value} {xs : List Str} (hy : StrsAre ys xs) {k : Nat} (h : ¬ (k : Int) < (ys.toArray.size : Int)) : xs[k]? = none := by
  have e1 := strs_length hy
  rw [List.size_toArray] at h
  rw [List.getElem?_eq_none]; omega
end
end Mine
end
section
open PySem PySem.W PySem.Calls PyProof.Rows PyProof.V
namespace Mine
theorem nilS : strS [] = Str.ofString "" := by decide +kernel
theorem row_strs (c d : Int) : (rowL c d).map strS = layersS (strS (letterL c)) (handsOf d) := by
  unfold rowL
  rw [List.map_map]
  have : (strS ∘ fun y : Str => y.cps.toList) = id := funext fun y => strS_self y
  rw [this, List.map_id]
theorem whole_eq (c0 d0 c1 d1 c2 d2 : Int) : (wholeW c0 d0 c1 d1 c2 d2).map strS = (layersS (strS (letterL c0)) (handsOf d0) ++ (layersS (strS (letterL c1)) (handsOf d1) ++ layersS (strS (letterL c2)) (handsOf d2))) ++ [Str.ofString ""] := by
  unfold wholeW
  rw [List.map_append, List.map_append, List.map_append, row_strs, row_strs, row_strs, List.map_singleton, nilS, List.append_assoc, List.append_assoc]
theorem rounds_shape {a b c : List (List Nat)} (ha : a ≠ [] ∧ a.length ≤ 3) (hb : b ≠ [] ∧ b.length ≤ 3) (hc : c ≠ [] ∧ c.length ≤ 3) :
    (headsR [a, b, c] ++ (headsR (nextR' [a, b, c]) ++ (headsR (nextR' (nextR' [a, b, c])) ++ [[]]))).map strS = roundS (a.map strS) (b.map strS) (c.map strS) ++ [strS []] := by
  have sh : ∀ l : List (List Nat), l ≠ [] ∧ l.length ≤ 3 → (∃ x, l = [x]) ∨ (∃ x y, l = [x, y]) ∨ ∃ x y z, l = [x, y, z] := by
    rintro (_ | ⟨x, _ | ⟨y, _ | ⟨z, _ | ⟨u, r⟩⟩⟩⟩) ⟨h1, h2⟩
    · exact absurd rfl h1
    · exact .inl ⟨x, rfl⟩
    · exact .inr (.inl ⟨x, y, rfl⟩)
    · exact .inr (.inr ⟨x, y, z, rfl⟩)
    · simp only [List.length_cons] at h2; omega
  rcases sh a ha with ⟨_, rfl⟩ | ⟨_, _, rfl⟩ | ⟨_, _, _, rfl⟩ <;> rcases sh b hb with ⟨_, rfl⟩ | ⟨_, _, rfl⟩ | ⟨_, _, _, rfl⟩ <;> rcases sh c hc with ⟨_, rfl⟩ | ⟨_, _, rfl⟩ | ⟨_, _, _, rfl⟩ <;> rfl
theorem row_shape (c d : Int) : rowL c d ≠ [] ∧ (rowL c d).length ≤ 3 := by
  obtain ⟨a, r, e, -, l⟩ := row_facts c d
  rw [e]
  exact ⟨by simp, l⟩
theorem rounds_eq (c0 d0 c1 d1 c2 d2 : Int) : (roundsW c0 d0 c1 d1 c2 d2).map strS = roundS (layersS (strS (letterL c0)) (handsOf d0)) (layersS (strS (letterL c1)) (handsOf d1)) (layersS (strS (letterL c2)) (handsOf d2)) ++ [Str.ofString ""] := by
  unfold roundsW
  rw [rounds_shape (row_shape _ _) (row_shape _ _) (row_shape _ _), row_strs, row_strs, row_strs, nilS]
theorem sm_ok {x : Str} (h : SmL x.cps.toList) : PyData.strOk x = true := by
  obtain ⟨⟨l⟩⟩ := x
  have h' : SmL l := h
  show (⟨l⟩ : Array Nat).all _ = true
  rw [Array.all_eq_true_iff_forall_mem]
  intro a ha
  exact decide_eq_true (h' a (by simpa using ha))
theorem layers_ok (c d : Int) : ∀ x ∈ layersS (strS (letterL c)) (handsOf d), PyData.strOk x = true := by
  have h0 : SmL (strS (letterL c)).cps.toList := letter_lt c
  intro x hx
  apply sm_ok
  rcases hands_cases d with e | ⟨h, e⟩ | ⟨h, k, e⟩ <;> rw [e] at hx
  · rw [List.mem_singleton.mp hx]; exact h0
  · have hx' : x ∈ [outS (strS (letterL c)) [h], strS (letterL c)] := hx
    simp only [List.mem_cons, List.not_mem_nil, or_false] at hx'
    rcases hx' with rfl | rfl
    · exact out_lt _ _ h0
    · exact h0
  · have hx' : x ∈ [outS (strS (letterL c)) [h, k], outS (strS (letterL c)) [h], strS (letterL c)] := hx
    simp only [List.mem_cons, List.not_mem_nil, or_false] at hx'
    rcases hx' with rfl | rfl | rfl
    · exact out_lt _ _ h0
    · exact out_lt _ _ h0
    · exact h0
theorem nil_ok : PyData.strOk (Str.ofString "") = true := by decide +kernel
theorem whole_ok (c0 d0 c1 d1 c2 d2 : Int) : ∀ x ∈ (layersS (strS (letterL c0)) (handsOf d0) ++ (layersS (strS (letterL c1)) (handsOf d1) ++ layersS (strS (letterL c2)) (handsOf d2))) ++ [Str.ofString ""], PyData.strOk x = true := by
  intro x hx
  simp only [List.mem_append, List.mem_singleton] at hx
  rcases hx with (h | h | h) | rfl
  · exact layers_ok _ _ x h
  · exact layers_ok _ _ x h
  · exact layers_ok _ _ x h
  · exact nil_ok
theorem rounds_ok (c0 d0 c1 d1 c2 d2 : Int) : ∀ x ∈ roundS (layersS (strS (letterL c0)) (handsOf d0)) (layersS (strS (letterL c1)) (handsOf d1)) (layersS (strS (letterL c2)) (handsOf d2)) ++ [Str.ofString ""], PyData.strOk x = true := by
  intro x hx
  rcases List.mem_append.mp hx with hx | hx
  · unfold roundS accS at hx
    obtain ⟨k, hk, hx⟩ := List.mem_flatMap.mp hx
    obtain ⟨j, hj, hx⟩ := List.mem_filterMap.mp hx
    have hm := List.mem_of_getElem? hx
    have hj' : j < 3 := List.mem_range.mp hj
    obtain rfl | rfl | rfl : j = 0 ∨ j = 1 ∨ j = 2 := by omega
    · exact layers_ok _ _ x hm
    · exact layers_ok _ _ x hm
    · exact layers_ok _ _ x hm
  · rw [List.mem_singleton.mp hx]; exact nil_ok
theorem layers_head (c d : Int) : ∃ r, layersS (strS (letterL c)) (handsOf d) = outW c d :: r := by
  unfold outW
  rcases hands_cases d with e | ⟨h, e⟩ | ⟨h, k, e⟩ <;> rw [e]
  · exact ⟨_, rfl⟩
  · exact ⟨_, rfl⟩
  · exact ⟨_, rfl⟩
theorem out_ok (c d : Int) : PyData.strOk (outW c d) = true := sm_ok (out_lt _ _ (letter_lt c))
section
variable {prog : Program} {w : World} {A : Around} {E : Value → Shared → Prop} {s : Shared} {h₀ : Heap} {L : Addr} {news : List (Addr × Obj)}
theorem eq_true {a b : Addr} {vs us : List Value} {xs ys : List Str} {n1 n2 : Nat} {Q : Value → Shared → Prop} (N : News h₀ L s.heap news) (ha : (a, listOf vs.toArray n1) ∈ news) (hb : (b, listOf us.toArray n2) ∈ news) (hi : StrsAre vs xs) (hi' : StrsAre us ys) (e : xs = ys) (hy : ∀ x ∈ ys, PyData.strOk x = true) (hu : A.units + 64 < cLine)
    (h : Q (.bool true) s) : wpAny (model prog w) A (compareOp .Eq (.ref a) (.ref b)) Q E s := by
  subst e
  refine eq_strsK (N.isList ha) hi (N.isList hb) hi' hy hy hu ?_
  rw [decide_eq_true rfl]
  exact h
theorem item_first {value slice : Expr} {r : Addr} {ys : List Value} {xs : List Str} {n : Nat} {u : Tok} {z : Str} {rest : List Str} {Q : Value → Shared → Prop} (N : News h₀ L s.heap news) (hm : (r, listOf ys.toArray n) ∈ news) (hy : StrsAre ys xs) (hz : xs = z :: rest)
    (h : ∀ t, Q (.str z t) s)
    (hs : subscripted slice false (.ref r) (.int 0 u) = operate [.ref r, .int 0 u] (getItem (.ref r) (.int 0 u)) := by with_unfolding_all rfl) :
    wpAny (model prog w) A (subscriptTail value slice (.ref r) (.int 0 u)) Q E s := by
  have hl : s.heap.IsList r ys.toArray := N.isList hm
  subst hz
  obtain ⟨z', t, e2, e3⟩ := strs_at hy (j := 0) (by simp)
  cases e2
  refine tail_any hl.typeIs slot_list_getitem.lookup ?_ hs
  exact wpAny_getItem_list hl (by decide) (by decide) e3 (h t)
theorem item_head {value slice : Expr} {r : Addr} {ys : List Value} {xs : List Str} {n : Nat} {u : Tok} {Q : Value → Shared → Prop} (N : News h₀ L s.heap news) (hm : (r, listOf ys.toArray n) ∈ news) (hy : StrsAre ys xs) (hz : 0 < xs.length)
    (h : ∀ t, Q (.str (xs.headD ⟨#[]⟩) t) s)
    (hs : subscripted slice false (.ref r) (.int 0 u) = operate [.ref r, .int 0 u] (getItem (.ref r) (.int 0 u)) := by with_unfolding_all rfl) :
    wpAny (model prog w) A (subscriptTail value slice (.ref r) (.int 0 u)) Q E s := by
  cases xs with
  | nil => exact absurd hz (Nat.lt_irrefl 0)
  | cons z rest => exact item_first N hm hy rfl h hs
end
theorem layers_pos (c d : Int) : 0 < (layersS (strS (letterL c)) (handsOf d)).length := by
  obtain ⟨r, e⟩ := layers_head c d
  rw [e]; exact Nat.succ_pos _
theorem last_eq (c d : Int) : [strS [], strS (outW c d).cps.toList] = [Str.ofString "", (layersS (strS (letterL c)) (handsOf d)).headD ⟨#[]⟩] := by
  obtain ⟨r, e⟩ := layers_head c d
  rw [e, nilS, strS_self]; rfl
theorem last_ok (c d : Int) : ∀ x ∈ [Str.ofString "", (layersS (strS (letterL c)) (handsOf d)).headD ⟨#[]⟩], PyData.strOk x = true := by
  obtain ⟨r, e⟩ := layers_head c d
  rw [e]
  intro x hx
  simp only [List.mem_cons, List.not_mem_nil, or_false] at hx
  rcases hx with rfl | rfl
  · exact nil_ok
  · exact out_ok c d
end Mine
end
section
open PySem PySem.W PySem.Calls PyProof.Rows PyProof.V
namespace Mine
theorem count_nl (x : Str) : Txt.count x (Str.ofString "\n") = nlA x.cps.toList := by
  rw [show Str.ofString "\n" = ⟨#[10]⟩ from by decide +kernel, count_cnt]
  generalize x.cps.toList = l
  induction l with
  | nil => rfl
  | cons c r ih =>
    rw [cnt_cons, nlA, ih]
    by_cases h : c = 10
    · subst h; rfl
    · have h1 : ¬ [c] = [10] := fun e => h (by simpa using e)
      rw [nl1, if_neg h1]
      first | rw [if_neg h] | rw [if_neg (Ne.symm h)]
theorem lines_eq {p q r : Int} (h1 : p = r) (h2 : q = r) : [p, q] = (List.replicate (Int.toNat 2) [r]).flatten := by
  subst h1; subst h2; rfl
section
variable {prog : Program} {w : World} {A : Around} {E : Value → Shared → Prop} {s : Shared} {h₀ : Heap} {L : Addr} {news : List (Addr × Obj)}
theorem ints_true {a b : Addr} {p q : Int} {t u : Tok} {us : List Value} {ms : List Int} {n1 n2 : Nat} {Q : Value → Shared → Prop} (N : News h₀ L s.heap news) (ha : (a, listOf [Value.int p t, Value.int q u].toArray n1) ∈ news) (hb : (b, listOf us.toArray n2) ∈ news) (hi' : IntsAre us ms) (hu : A.units + 64 < cLine) (e : [p, q] = ms)
    (h : Q (.bool true) s) : wpAny (model prog w) A (compareOp .Eq (.ref a) (.ref b)) Q E s := by
  subst e
  refine eq_intsK (N.isList ha) (.cons _ _ (.cons _ _ .nil)) (N.isList hb) hi' hu ?_
  rw [decide_eq_true rfl]
  exact h
end
end Mine
namespace Mine
theorem lin1 {p y : Int} (h : p + nlA [] = 1 + y) : p = 1 + y := by
  have : nlA [] = 0 := rfl
  omega
theorem lin2 {p q r t y : Int} (h1 : p + nlA [] = 1 + y) (h2 : q + nlA [] = p + nlA []) (h3 : r + nlA [] = q + nlA []) (h4 : t + nlA [] = r + nlA []) : t = 1 + y := by
  have : nlA [] = 0 := rfl
  omega
end Mine
end
section
open PySem PySem.W PySem.Calls PyProof.Rows
namespace Mine
section
variable {prog : Program} {w : World} {A : Around} {E : Value → Shared → Prop} {s : Shared} {h₀ : Heap} {L I : Addr} {m : Str → Option Value} {rest : List (Addr × Obj)} {i n : Nat}
/-- a range's iterator with step two -/
noncomputable def itS (i n : Nat) : Obj := { cls := .type "range_iterator", data := .fields #[rawInt (0 + (i : Int) * 2), rawInt ((n : Int) - (i : Int)), rawInt 2] }
theorem nextS {Q : Option Value → Shared → Prop} (hh : A.handled = none) (F : Fr h₀ L s.heap m) (N : News h₀ L s.heap ((I, itS i n) :: rest)) (off : ∀ p ∈ rest, p.1 ≠ I) (hi : i < n)
    (h : ∀ t h' tk, Fr h₀ L h' m → News h₀ L h' ((I, itS (i + 1) n) :: rest) → Q (some (.int (0 + (i : Int) * 2) t)) { s with heap := h', toks := tk }) : wpAny (model prog w) A (pyNext (.ref I)) Q E s := by
  have D := N _ (.head _)
  have st : IsRangeIter s.heap I (0 + (i : Nat) * 2) ((n : Int) - (i : Nat)) 2 := D.1
  refine (Walks.range hh I 0 2 n).item i s Q E hi st fun v h' tk hP hst hk => ?_
  obtain ⟨t, rfl⟩ := hP
  have up : ∀ b o, b ≠ I → s.heap.get? b = some o → h'.get? b = some o := fun b o hb e => hk b o (fun q => hb (List.mem_singleton.mp q)) e
  refine h t h' tk ⟨?_, fun b o e => up b o (fun q => ?_) (F.keep b o e), F.above⟩ fun p hp => ?_
  · obtain ⟨oL, a1, a2, hoL, a3⟩ := F.ns
    exact ⟨oL, a1, a2, up _ _ (Ne.symm D.2.1) hoL, a3⟩
  · have q' := D.2.2
    rw [show (I, itS i n).1 = b from q.symm, e] at q'
    cases q'
  · rcases List.mem_cons.mp hp with rfl | hp
    · exact ⟨hst, D.2⟩
    · exact ⟨up _ _ (off p hp) (N p (.tail _ hp)).1, (N p (.tail _ hp)).2⟩
theorem endS {Q : Option Value → Shared → Prop} (hh : A.handled = none) (F : Fr h₀ L s.heap m) (N : News h₀ L s.heap ((I, itS n n) :: rest)) (off : ∀ p ∈ rest, p.1 ≠ I)
    (h : ∀ h' tk, Fr h₀ L h' m → News h₀ L h' rest → Q none { s with heap := h', toks := tk }) : wpAny (model prog w) A (pyNext (.ref I)) Q E s := by
  have D := N _ (.head _)
  have st : IsRangeIter s.heap I (0 + (n : Nat) * 2) ((n : Int) - (n : Nat)) 2 := D.1
  refine (Walks.range hh I 0 2 n).done s Q E st fun h' tk hk => ?_
  have up : ∀ b o, b ≠ I → s.heap.get? b = some o → h'.get? b = some o := fun b o hb e => hk b o (fun q => hb (List.mem_singleton.mp q)) e
  refine h h' tk ⟨?_, fun b o e => up b o (fun q => ?_) (F.keep b o e), F.above⟩ fun p hp => ⟨up _ _ (off p hp) (N p (.tail _ hp)).1, (N p (.tail _ hp)).2⟩
  · obtain ⟨oL, a1, a2, hoL, a3⟩ := F.ns
    exact ⟨oL, a1, a2, up _ _ (Ne.symm D.2.1) hoL, a3⟩
  · have q' := D.2.2
    rw [show (I, itS n n).1 = b from q.symm, e] at q'
    cases q'
theorem iterS {r : Addr} {news : List (Addr × Obj)} {t u v : Tok} {Q : Value → Shared → Prop} (hr : IsRange s.heap r 0 6 2 t u v) (F : Fr h₀ L s.heap m) (N : News h₀ L s.heap news)
    (h : ∀ I h', Fr h₀ L h' m → News h₀ L h' ((I, itS 0 3) :: news) → (∀ p ∈ news, p.1 < I) → Q (.ref I) { s with heap := h' }) : wpAny (model prog w) A (pyIter (.ref r)) Q E s :=
  wpAny_pyIter_range hr (by decide) (h _ _ (F.push _) (News.push F N _ rfl) (fun p hp => Heap.lt_size (N p hp).1))
end
end Mine
end
section
open PySem PySem.W PySem.Calls PyProof.Rows
namespace Mine
@[reducible] noncomputable def cI (cs : List Int) (i : Nat) : Int := cs.getD (Int.toNat (0 + (i : Int) * 2)) 0
@[reducible] noncomputable def dI (cs : List Int) (i : Nat) : Int := cs.getD (0 + (i : Int) * 2 + 1).toNat 0
/-- the outermost writing of the letter i -/
noncomputable def wS (cs : List Int) (i : Nat) : Str := outS ⟨(letterL (cI cs i)).toArray⟩ (handsOf (dI cs i))
/-- the page after i letters -/
noncomputable def pgS (cs : List Int) : Nat → Str
  | 0 => Str.ofString ""
  | i + 1 => pgS cs i ++ dressS (wS cs i) (dI cs i)
noncomputable def outsS (cs : List Int) (i : Nat) : List Str := (List.range i).map (wS cs)
/-- a row: its address, its writings -/
noncomputable abbrev Row := Addr × List Value × Nat
@[reducible] noncomputable def rowO (r : Row) : Addr × Obj := (r.1, listOf r.2.1.toArray r.2.2)
noncomputable def RowsAre (cs : List Int) (i : Nat) (R : List Row) : Prop := R.length = i ∧ (∀ j r, R[j]? = some r → StrsAre r.2.1 (layersS ⟨(letterL (cI cs j)).toArray⟩ (handsOf (dI cs j)))) ∧ R.Pairwise (fun a b => @LT.lt Nat _ a.1 b.1)
theorem rows_nil {cs : List Int} : RowsAre cs 0 [] := ⟨rfl, fun j r h => by simp at h, .nil⟩
theorem rows_snoc {cs : List Int} {i : Nat} {R : List Row} {a : Addr} {ys : List Value} {n : Nat} (h : RowsAre cs i R) (hy : StrsAre ys (layersS ⟨(letterL (cI cs i)).toArray⟩ (handsOf (dI cs i))))
   (hlt : ∀ p ∈ R.map rowO, @LT.lt Nat _ p.1 a) : RowsAre cs (i + 1) (R ++ [(a, ys, n)]) := by
  obtain ⟨h1, h2, h3⟩ := h
  refine ⟨by rw [List.length_append, h1]; rfl, fun j r hj => ?_, ?_⟩
  · rcases Nat.lt_or_ge j R.length with hlt' | hge
    · rw [List.getElem?_append_left hlt'] at hj
      exact h2 j r hj
    · rw [List.getElem?_append_right hge] at hj
      have e : j - R.length = 0 := by
        by_cases h0 : j - R.length = 0
        · exact h0
        · obtain ⟨q, hq⟩ := Nat.exists_eq_succ_of_ne_zero h0
          rw [hq] at hj; simp at hj
      rw [e] at hj
      obtain rfl : (a, ys, n) = r := by simpa using hj
      have ej : j = i := by rw [← h1]; omega
      subst ej; exact hy
  · rw [List.pairwise_append]
    refine ⟨h3, List.pairwise_singleton _ _, fun x hx y hy' => ?_⟩
    obtain rfl := List.mem_singleton.mp hy'
    exact hlt (rowO x) (List.mem_map_of_mem hx)
theorem rows_three {cs : List Int} {R : List Row} (h : RowsAre cs 3 R) : ∃ a0 y0 n0 a1 y1 n1 a2 y2 n2, R = [(a0, y0, n0), (a1, y1, n1), (a2, y2, n2)] ∧
   StrsAre y0 (layersS ⟨(letterL (cI cs 0)).toArray⟩ (handsOf (dI cs 0))) ∧ StrsAre y1 (layersS ⟨(letterL (cI cs 1)).toArray⟩ (handsOf (dI cs 1))) ∧ StrsAre y2 (layersS ⟨(letterL (cI cs 2)).toArray⟩ (handsOf (dI cs 2))) ∧
   @LT.lt Nat _ a0 a1 ∧ @LT.lt Nat _ a1 a2 := by
  obtain ⟨h1, h2, h3⟩ := h
  match R, h1 with
  | [(a0, y0, n0), (a1, y1, n1), (a2, y2, n2)], _ =>
    have p := List.pairwise_cons.mp h3
    have p2 := List.pairwise_cons.mp p.2
    exact ⟨a0, y0, n0, a1, y1, n1, a2, y2, n2, rfl, h2 0 _ rfl, h2 1 _ rfl, h2 2 _ rfl, p.1 _ (.head _), p2.1 _ (.head _)⟩
theorem outs_three {cs : List Int} {os : List Value} (h : StrsAre os (outsS cs 3)) : ∃ t0 t1 t2, os = [.str (wS cs 0) t0, .str (wS cs 1) t1, .str (wS cs 2) t2] := by
  have h' : StrsAre os [wS cs 0, wS cs 1, wS cs 2] := h
  cases h' with
  | cons _ h0 h' => cases h' with
    | cons _ h1 h' => cases h' with
      | cons _ h2 h' => cases h'; exact ⟨_, _, _, rfl⟩
end Mine
end
section
open PySem PySem.W PySem.Calls PyProof.Rows
namespace Mine
/-- the names of law while it makes the page -/
@[reducible] noncomputable def rL (script cells page outer : Value) (xv k text hands hand : Option Value) : Str → Option Value := fun y =>
  if y = Str.ofString "hand" then hand else if y = Str.ofString "text" then text else if y = Str.ofString "hands" then hands else if y = Str.ofString "k" then k else if y = Str.ofString "page" then some page else
  if y = Str.ofString "outer" then some outer else if y = Str.ofString "x" then xv else if y = Str.ofString "cells" then some cells else if y = Str.ofString "script" then some script else none
theorem rL_fr {g h : Heap} {L : Addr} {m : Str → Option Value} {script cells page outer : Value} {xv k text hands hand : Option Value} (F : Fr g L h m)
   (h1 : m (Str.ofString "hand") = hand) (h2 : m (Str.ofString "text") = text) (h3 : m (Str.ofString "hands") = hands) (h4 : m (Str.ofString "k") = k) (h5 : m (Str.ofString "page") = some page)
   (h6 : m (Str.ofString "outer") = some outer) (h7 : m (Str.ofString "x") = xv) (h8 : m (Str.ofString "cells") = some cells) (h9 : m (Str.ofString "script") = some script)
   (h0 : ∀ y, y ≠ Str.ofString "hand" → y ≠ Str.ofString "text" → y ≠ Str.ofString "hands" → y ≠ Str.ofString "k" → y ≠ Str.ofString "page" → y ≠ Str.ofString "outer" → y ≠ Str.ofString "x" → y ≠ Str.ofString "cells" → y ≠ Str.ofString "script" → m y = none) :
   Fr g L h (rL script cells page outer xv k text hands hand) := by
  have e : m = rL script cells page outer xv k text hands hand := by
    funext y
    unfold rL
    by_cases e1 : y = Str.ofString "hand"
    · rw [if_pos e1, e1]; exact h1
    rw [if_neg e1]
    by_cases e2 : y = Str.ofString "text"
    · rw [if_pos e2, e2]; exact h2
    rw [if_neg e2]
    by_cases e3 : y = Str.ofString "hands"
    · rw [if_pos e3, e3]; exact h3
    rw [if_neg e3]
    by_cases e4 : y = Str.ofString "k"
    · rw [if_pos e4, e4]; exact h4
    rw [if_neg e4]
    by_cases e5 : y = Str.ofString "page"
    · rw [if_pos e5, e5]; exact h5
    rw [if_neg e5]
    by_cases e6 : y = Str.ofString "outer"
    · rw [if_pos e6, e6]; exact h6
    rw [if_neg e6]
    by_cases e7 : y = Str.ofString "x"
    · rw [if_pos e7, e7]; exact h7
    rw [if_neg e7]
    by_cases e8 : y = Str.ofString "cells"
    · rw [if_pos e8, e8]; exact h8
    rw [if_neg e8]
    by_cases e9 : y = Str.ofString "script"
    · rw [if_pos e9, e9]; exact h9
    rw [if_neg e9]
    exact h0 y e1 e2 e3 e4 e5 e6 e7 e8 e9
  rw [← e]; exact F
/-- where the loop over the letters stands -/
noncomputable def RInv (g : Heap) (L' : Addr) (s : Shared) (sv lay out cel cl I : Addr) (oc : Obj) (vs : List Value) (cs : List Int) (nl : Nat) (tb : Addr × Obj) (k : Nat) (s' : Shared) : Prop :=
  ∃ (i : Nat) (R : List Row) (os : List Value) (tp : Tok) (xv kv tv hv dv : Option Value) (lv ov : Nat) (h' : Heap) (tk' : Tok), s' = { s with heap := h', toks := tk' } ∧ i ≤ 3 ∧ k = 3 - i ∧ RowsAre cs i R ∧ StrsAre os (outsS cs i) ∧
   (∀ p ∈ R.map rowO, @LT.lt Nat _ I p.1) ∧ Fr g L' h' (rL (.ref sv) (.ref cel) (.str (pgS cs i) tp) (.ref out) xv kv tv hv dv) ∧
   News g L' h' ((I, itS i 3) :: (lay, listOf (R.map fun r => Value.ref r.1).toArray lv) :: (out, listOf os.toArray ov) :: (cel, listOf vs.toArray nl) :: (cl, oc) :: tb :: R.map rowO)
theorem sameR {g : Heap} {L' : Addr} {h : Heap} {m : Str → Option Value} {s : Shared} {ts : List (Addr × Addr)} {sv lay out D cel cl I : Addr} {its : Array Value} {oI ol oo oD oc : Obj} {vs : List Value} {cs : List Int} {nl : Nat} {tb : Addr × Obj}
   (_hS : (ghostOf s.heap ts).IsList sv its) (_F : Fr g L' h m) (_N : News g L' h [(I, oI), (lay, ol), (out, oo), (D, oD), (cel, listOf vs.toArray nl), (cl, oc), tb]) (_I : IntsAre vs cs) {R : Prop} (k : ∀ V, Same V (RInv g L' s sv lay out cel cl I oc vs cs nl tb) → R) : R := k _ ⟨rfl⟩
theorem pg_len (cs : List Int) : ∀ i, (pgS cs i).length ≤ 300 * i
  | 0 => Nat.le_of_eq (by decide +kernel : (Str.ofString "").length = 0)
  | i + 1 => by
    have h1 := pg_len cs i
    have h2 : (dressS (wS cs i) (dI cs i)).length ≤ 300 := dress_len _ (out_len2 _ _)
    show (pgS cs i ++ dressS (wS cs i) (dI cs i)).length ≤ _
    rw [Str.length_append]; omega
theorem pg_len3 (cs : List Int) {i : Nat} (h : i < 3) : (pgS cs i).length ≤ 900 := Nat.le_trans (pg_len cs i) (by omega)
theorem outs_snoc {cs : List Int} {i : Nat} {os : List Value} {t : Tok} (h : StrsAre os (outsS cs i)) : StrsAre (os ++ [.str (wS cs i) t]) (outsS cs (i + 1)) := by
  unfold outsS
  rw [List.range_succ, List.map_append]
  exact strs_snoc h
theorem tail_snoc {R : List Row} {I : Addr} {r : Row} (h : ∀ p ∈ R.map rowO, @LT.lt Nat _ I p.1) (k : @LT.lt Nat _ I r.1) : ∀ p ∈ (R ++ [r]).map rowO, @LT.lt Nat _ I p.1 := by
  intro p hp
  rw [List.map_append] at hp
  rcases List.mem_append.mp hp with hp | hp
  · exact h p hp
  · obtain rfl := List.mem_singleton.mp hp; exact k
theorem news_turn {g h : Heap} {L l9 lay out : Addr} {x2 x3 x4 x7 x8 x9 : Addr × Obj} {ys os : List Value} {v : Value} {n9 lv ov : Nat} {R : List Row}
   (N : News g L h ((l9, listOf ys.toArray n9) :: x2 :: x3 :: x4 :: (lay, listOf (R.map (fun r => Value.ref r.1) ++ [Value.ref l9]).toArray lv) :: (out, listOf (os.toArray.push v) ov) :: x7 :: x8 :: x9 :: R.map rowO)) :
   News g L h (x4 :: (lay, listOf ((R ++ [(l9, ys, n9)]).map fun r => Value.ref r.1).toArray lv) :: (out, listOf (os ++ [v]).toArray ov) :: x7 :: x8 :: x9 :: (R ++ [(l9, ys, n9)]).map rowO) := by
  intro p hp
  refine N p ?_
  rw [List.map_append, List.map_append] at hp
  rw [show os.toArray.push v = (os ++ [v]).toArray from by simp]
  simp only [List.mem_cons, List.mem_append, List.map_cons, List.map_nil, List.not_mem_nil, or_false] at hp ⊢
  rcases hp with h | h | h | h | h | h | h | h
  · exact .inr (.inr (.inr (.inl h)))
  · exact .inr (.inr (.inr (.inr (.inl h))))
  · exact .inr (.inr (.inr (.inr (.inr (.inl h)))))
  · exact .inr (.inr (.inr (.inr (.inr (.inr (.inl h))))))
  · exact .inr (.inr (.inr (.inr (.inr (.inr (.inr (.inl h)))))))
  · exact .inr (.inr (.inr (.inr (.inr (.inr (.inr (.inr (.inl h))))))))
  · exact .inr (.inr (.inr (.inr (.inr (.inr (.inr (.inr (.inr h))))))))
  · exact .inl h
theorem tail_trans {R : List (Addr × Obj)} {D E : Nat} (h : ∀ p ∈ R, @LT.lt Nat _ p.1 D) (k : D < E) : ∀ p ∈ R, @LT.lt Nat _ p.1 E := fun p hp => Nat.lt_trans (h p hp) k
theorem prune8 {h₀ h : Heap} {L : Addr} {a1 a2 a3 a4 a5 a6 a7 a8 : Addr × Obj} (N : News h₀ L h [a1, a2, a3, a4, a5, a6, a7, a8]) : News h₀ L h [a5, a8, a7, a6, a1, a2, a4] := by
  intro p hp
  refine N p ?_
  simp only [List.mem_cons, List.not_mem_nil, or_false] at hp ⊢
  rcases hp with h | h | h | h | h | h | h
  · exact .inr (.inr (.inr (.inr (.inl h))))
  · exact .inr (.inr (.inr (.inr (.inr (.inr (.inr h))))))
  · exact .inr (.inr (.inr (.inr (.inr (.inr (.inl h))))))
  · exact .inr (.inr (.inr (.inr (.inr (.inl h)))))
  · exact .inl h
  · exact .inr (.inl h)
  · exact .inr (.inr (.inr (.inl h)))
theorem strs_len9 : ∀ {vs : List Value} {xs : List Str}, StrsAre vs xs → vs.length = xs.length
  | _, _, .nil => rfl
  | _, _, .cons _ _ r => congrArg (· + 1) (strs_len9 r)
theorem fit_rows {cs : List Int} {i : Nat} {R : List Row} (h : RowsAre cs i R) (hi : i < 3) : (R.map fun r => Value.ref r.1).toArray.size ≤ sizeLine := by
  rw [PySem.sizeLine_eq, List.size_toArray, List.length_map, h.1]; omega
theorem fit_outs {cs : List Int} {i : Nat} {os : List Value} (h : StrsAre os (outsS cs i)) (hi : i < 3) : os.toArray.size ≤ sizeLine := by
  rw [PySem.sizeLine_eq, List.size_toArray, strs_len9 h]; unfold outsS; rw [List.length_map, List.length_range]; omega
theorem tail_gt {R : List (Addr × Obj)} {I c : Nat} (h : ∀ p ∈ R, @LT.lt Nat _ I p.1) (k : c ≤ I) : ∀ p ∈ R, p.1 ≠ c := fun p hp => Nat.ne_of_gt (Nat.lt_of_le_of_lt k (h p hp))
theorem tail_lt {R : List (Addr × Obj)} {D c : Nat} (h : ∀ p ∈ R, @LT.lt Nat _ p.1 D) (k : D ≤ c) : ∀ p ∈ R, p.1 ≠ c := fun p hp => Nat.ne_of_lt (Nat.lt_of_lt_of_le (h p hp) k)
theorem tailB {x1 x2 x3 x4 x5 x6 : Addr × Obj} {R : List Row} {D : Addr} (h : ∀ p ∈ x1 :: x2 :: x3 :: x4 :: x5 :: x6 :: R.map rowO, p.1 < D) : ∀ p ∈ R.map rowO, @LT.lt Nat _ p.1 D :=
  fun p hp => h p (.tail _ (.tail _ (.tail _ (.tail _ (.tail _ (.tail _ hp))))))
theorem turn_all {g h : Heap} {L l9 lay out I : Addr} {oI : Obj} {x2 x3 x7 x8 x9 : Addr × Obj} {ys os : List Value} {v : Value} {n9 lv ov i : Nat} {R : List Row} {cs : List Int} {D : Nat}
   (N : News g L h ((l9, listOf ys.toArray n9) :: x2 :: x3 :: (I, oI) :: (lay, listOf (R.map (fun r => Value.ref r.1) ++ [Value.ref l9]).toArray lv) :: (out, listOf (os.toArray.push v) ov) :: x7 :: x8 :: x9 :: R.map rowO))
   (hRow : RowsAre cs i R) (hY : StrsAre ys (layersS ⟨(letterL (cI cs i)).toArray⟩ (handsOf (dI cs i)))) (hIR : ∀ p ∈ R.map rowO, @LT.lt Nat _ I p.1) (hT : ∀ p ∈ R.map rowO, @LT.lt Nat _ p.1 D) (k2 : @LT.lt Nat _ D l9) (k1 : @LT.lt Nat _ I D) :
   RowsAre cs (i + 1) (R ++ [(l9, ys, n9)]) ∧ (∀ p ∈ (R ++ [(l9, ys, n9)]).map rowO, @LT.lt Nat _ I p.1) ∧
   News g L h ((I, oI) :: (lay, listOf ((R ++ [(l9, ys, n9)]).map fun r => Value.ref r.1).toArray lv) :: (out, listOf (os ++ [v]).toArray ov) :: x7 :: x8 :: x9 :: (R ++ [(l9, ys, n9)]).map rowO) :=
  ⟨rows_snoc hRow hY (tail_trans hT k2), tail_snoc hIR (Nat.lt_trans k1 k2), news_turn N⟩
end Mine
end
section
open PySem PySem.W PySem.Calls PyProof.Rows
namespace Mine
theorem all_three {cs : List Int} {R : List Row} {os : List Value} (h : RowsAre cs 3 R) (ho : StrsAre os (outsS cs 3)) : ∃ c0 d0 c1 d1 c2 d2 a0 y0 n0 a1 y1 n1 a2 y2 n2 t0 t1 t2, R = [(a0, y0, n0), (a1, y1, n1), (a2, y2, n2)] ∧
   os = [.str (outW c0 d0) t0, .str (outW c1 d1) t1, .str (outW c2 d2) t2] ∧ pgS cs 3 = pageS c0 d0 c1 d1 c2 d2 ∧
   StrsAre y0 (layersS ⟨(letterL c0).toArray⟩ (handsOf d0)) ∧ StrsAre y1 (layersS ⟨(letterL c1).toArray⟩ (handsOf d1)) ∧ StrsAre y2 (layersS ⟨(letterL c2).toArray⟩ (handsOf d2)) ∧
   @LT.lt Nat _ a0 a1 ∧ @LT.lt Nat _ a1 a2 := by
  obtain ⟨a0, y0, n0, a1, y1, n1, a2, y2, n2, hR, h0, h1, h2, h3, h4⟩ := rows_three h
  obtain ⟨t0, t1, t2, hO⟩ := outs_three ho
  exact ⟨cI cs 0, dI cs 0, cI cs 1, dI cs 1, cI cs 2, dI cs 2, a0, y0, n0, a1, y1, n1, a2, y2, n2, t0, t1, t2, hR, hO, rfl, h0, h1, h2, h3, h4⟩
theorem page_len3 (c0 d0 c1 d1 c2 d2 : Int) : (pageS c0 d0 c1 d1 c2 d2).length ≤ 10000 := by
  have := page_len c0 d0 c1 d1 c2 d2
  rw [Array.length_toList] at this
  exact this
end Mine
end
section
open PySem PySem.W PySem.Calls PyProof.Rows
namespace Mine
theorem off5 {g h : Heap} {L I : Addr} {oI : Obj} {x1 x2 x3 x4 x5 : Addr × Obj} {R : List (Addr × Obj)} (_N : News g L h ((I, oI) :: x1 :: x2 :: x3 :: x4 :: x5 :: R)) (h1 : @Ne Nat x1.1 I) (h2 : @Ne Nat x2.1 I) (h3 : @Ne Nat x3.1 I) (h4 : @Ne Nat x4.1 I) (h5 : @Ne Nat x5.1 I)
   (hR : ∀ p ∈ R, @LT.lt Nat _ I p.1) : ∀ p ∈ x1 :: x2 :: x3 :: x4 :: x5 :: R, p.1 ≠ I :=
  List.forall_mem_cons.mpr ⟨h1, List.forall_mem_cons.mpr ⟨h2, List.forall_mem_cons.mpr ⟨h3, List.forall_mem_cons.mpr ⟨h4, List.forall_mem_cons.mpr ⟨h5, fun p hp => Nat.ne_of_gt (hR p hp)⟩⟩⟩⟩⟩
end Mine
end
section
namespace Mine
local macro_rules | `(tactic| walk_at "fact") => `(tactic| with_reducible first | assumption | exact And.left ‹_› | exact And.right ‹_› | exact ca2 ‹_› | exact cz3 ‹_› | exact ca3 ‹_› | exact cz4 ‹_› | exact ca4 ‹_› | exact cz5 ‹_› | exact ca5 ‹_› | exact cz6 ‹_› | exact ca6 ‹_› | exact cz7 ‹_› | exact ca7 ‹_› | exact cz8 ‹_› | exact ca8 ‹_› | exact cz9 ‹_› | exact ca9 ‹_› | exact cz10 ‹_› | exact ca10 ‹_› | exact cz11 ‹_› | exact ca11 ‹_› | exact cz12 ‹_› | exact ca12 ‹_› | exact cz13 ‹_› | exact ca13 ‹_› | exact cz14 ‹_›)
local macro_rules | `(tactic| walk_at "grd") => `(tactic| with_reducible ((fail_if_success show _ ≠ 98765); (fail_if_success show 98765 ≠ _); (fail_if_success show _ < 98765); (fail_if_success show 98765 < _); (fail_if_success show _ ≤ 98765); (fail_if_success show 98765 ≤ _)))
local macro_rules | `(tactic| omega) => `(tactic| with_reducible first | exact Nat.le_of_ble_eq_true rfl | exact room1 (by assumption) rfl | exact room0 (by assumption) rfl | exact room00 (by assumption) | exact le_lit (by assumption) rfl | (walk_at "grd"; first | assumption | (refine lt_ne ?_; walk_at "fact") | (refine gt_ne ?_; walk_at "fact") | (refine ltD ?_; walk_at "fact") | (refine Ne.symm ?_; walk_at "fact") | (refine neD ?_; walk_at "fact") | (refine Nat.lt_of_succ_lt ?_; walk_at "fact") | exact Nat.lt_trans (by assumption) (by assumption)) | fail)
local macro_rules | `(tactic| k_steps) => `(tactic| repeat' (first | (with_reducible refine unh (by assumption) ?_; try dsimp only) | (k_unfold; (try dsimp only)) | (k_end; wrow_close) | walk1 | (dsimp only; walk1) | (leave1; walk_say "STEP leave1"; try dsimp only) | fail "no step"))
local macro_rules | `(tactic| walk_at "hide") => `(tactic| ((try dsimp only); first | (refine hideW ?_; intro _ _ _ _) | (refine hideC ?_; intro _ _)))
section
open PySem PySem.W PyProof.Rows
section
variable {prog p : Program} {w : World} {loose : List Str} {mean : ExcName → Option Value} {mg mb : Str → Option Value} {dp un : Nat} {gd : Option (List Code)} {cn : Str} {cs : Scope} {a : Addr} {ccd : Value} {cl : List (Str × Addr)} {outer : List Env} {A₀ : Around} {base h₀ : Heap} {L : Addr} {m : Str → Option Value} {s : Shared} {Q E : Value → Shared → Prop} {news : List (Addr × Obj)}
theorem gentokS {α : Type} {M : Model} {A : Around} {t : Sem α} {Q : α → Shared → Prop} {E : Value → Shared → Prop} {h : Heap} {g : Array GenState} {d : Drawn} {tk n : Nat} {o : OsState} (hp : 0 < tk + n)
   (k : ∀ tk', 0 < tk' → wpAny M A t Q E ⟨h, g, d, tk', o⟩) : wpAny M A t Q E ⟨h, g, d, tk + n, o⟩ := k _ hp

noncomputable def RepPost (h₀ : Heap) (L : Addr) (m : Str → Option Value) (news : List (Addr × Obj)) (s : Shared) (x : Str) (f : Flow) (s' : Shared) : Prop :=
  f = .next ∧ ∃ t' h' tk', s' = { s with heap := h', toks := tk' } ∧ 0 < tk' ∧ Fr h₀ L h' (fun y => if y = "text" then some (.str x t') else m y) ∧ News h₀ L h' news
theorem repPost_no {h : Heap} {g d o} {tk : Nat} {t : Tok} {x c r : Str} (F : Fr h₀ L h m) (N : News h₀ L h news) (hm : m "text" = some (.str x t)) (hc : c = ⟨#[c.cps.getD 0 0]⟩) (ho : (Builtin.Str.occurrences x c 0 x.length 1).isEmpty = true) (hk : 0 < tk) :
    RepPost h₀ L m news ⟨h', g, d, tk', o⟩ (Txt.replace x c r) .next ⟨h, g, d, tk, o⟩ := by
  refine ⟨rfl, t, h, tk, rfl, hk, ?_, N⟩
  rw [show Txt.replace x c r = Txt.replace x ⟨#[c.cps.getD 0 0]⟩ r from congrArg (fun c => Txt.replace x c r) hc, rep_one, rep_none x r _ (by rw [← hc]; exact ho)]
  have : (fun y => if y = Str.ofString "text" then some (Value.str x t) else m y) = m := by
    funext y; split
    · rename_i e; rw [e, hm]
    · rfl
  rw [this]; exact F
theorem cut_fm {M : Model} {A : Around} {env : Env} {E : Value → Shared → Prop} {Q : Flow → Shared → Prop} {c r : String} {k1 k2 k3 : Nat} {p1 p2 p3 p4 p5 p6 p7 p8 p9 p10 p11 : Pos} {f : Nat → List Nat} {x : Str} {t : Tok}
  (_F : Fr h₀ L s.heap m) (_N : News h₀ L s.heap news) (_hm : m "text" = some (.str (fm f x) t))
  (hc : Str.ofString c = ⟨#[(Str.ofString c).cps.getD 0 0]⟩) (hb : ∀ a, ((f a).flatMap (one ((Str.ofString c).cps.getD 0 0) (Str.ofString r).cps.toList)).length ≤ 6)
  (h1 : wpAny M A (isTrue (.Compare (.Constant (.str (Str.ofString c)) k1 p1) [.In] [.Name (Str.ofString "text") p2] p3) env (eval (.Compare (.Constant (.str (Str.ofString c)) k1 p1) [.In] [.Name (Str.ofString "text") p2] p3) env))
     (fun b s₂ => if b then wpAny M A (execs [.Assign [.Name (Str.ofString "text") p4] (.Call (.Attribute (.Name (Str.ofString "text") p5) (Str.ofString "replace") p6) [.Constant (.str (Str.ofString c)) k2 p7, .Constant (.str (Str.ofString r)) k3 p8] [] p9) p10] env) (RepPost h₀ L m news s (Txt.replace (fm f x) (Str.ofString c) (Str.ofString r))) E s₂
       else wpAny M A (execs [] env) (RepPost h₀ L m news s (Txt.replace (fm f x) (Str.ofString c) (Str.ofString r))) E s₂) E s)
  (h2 : ∀ t' h' tk', 0 < tk' → Fr h₀ L h' (fun y => if y = "text" then some (.str (fm (fun a => (f a).flatMap (one ((Str.ofString c).cps.getD 0 0) (Str.ofString r).cps.toList)) x) t') else m y) → News h₀ L h' news →
     (fm (fun a => (f a).flatMap (one ((Str.ofString c).cps.getD 0 0) (Str.ofString r).cps.toList)) x).length ≤ 6 * x.length → Q .next { s with heap := h', toks := tk' }) :
  wpAny M A (exec (.If (.Compare (.Constant (.str (Str.ofString c)) k1 p1) [.In] [.Name (Str.ofString "text") p2] p3) [.Assign [.Name (Str.ofString "text") p4] (.Call (.Attribute (.Name (Str.ofString "text") p5) (Str.ofString "replace") p6) [.Constant (.str (Str.ofString c)) k2 p7, .Constant (.str (Str.ofString r)) k3 p8] [] p9) p10] [] p11) env) Q E s := by
  have e : Txt.replace (fm f x) (Str.ofString c) (Str.ofString r) = fm (fun a => (f a).flatMap (one ((Str.ofString c).cps.getD 0 0) (Str.ofString r).cps.toList)) x := by
    rw [show Txt.replace (fm f x) (Str.ofString c) (Str.ofString r) = Txt.replace (fm f x) ⟨#[(Str.ofString c).cps.getD 0 0]⟩ (Str.ofString r) from congrArg (fun c => Txt.replace (fm f x) c (Str.ofString r)) hc, rep_one, fm_fm]
  refine wpAny_mono (wpAny_If h1) ?_ (fun _ _ h => h)
  rintro fl s' ⟨rfl, t', h', tk', rfl, hk, F, N⟩
  rw [e] at F
  exact h2 t' h' tk' hk F N (fm_length 6 hb x)
theorem cA : (Str.ofString "&").cps.getD 0 0 = 38 := by decide +kernel
theorem cB : (Str.ofString "<").cps.getD 0 0 = 60 := by decide +kernel
theorem cC : (Str.ofString ">").cps.getD 0 0 = 62 := by decide +kernel
theorem cD : (Str.ofString "\"").cps.getD 0 0 = 34 := by decide +kernel
theorem cE : (Str.ofString "\r").cps.getD 0 0 = 13 := by decide +kernel
theorem cF : (Str.ofString "\n").cps.getD 0 0 = 10 := by decide +kernel
theorem cG : (Str.ofString "\t").cps.getD 0 0 = 9 := by decide +kernel
theorem esc_cases {P : Nat → Prop} (h : ∀ a ∈ [38, 60, 62, 34, 13, 10, 9], P a) (h' : ∀ a, a ≠ 38 → a ≠ 60 → a ≠ 62 → a ≠ 34 → a ≠ 13 → a ≠ 10 → a ≠ 9 → P a) (a : Nat) : P a := by
  by_cases hm : a ∈ [38, 60, 62, 34, 13, 10, 9]
  · exact h a hm
  · simp only [List.mem_cons, List.not_mem_nil, or_false, not_or] at hm
    obtain ⟨h1, h2, h3, h4, h5, h6, h7⟩ := hm
    exact h' a h1 h2 h3 h4 h5 h6 h7
section
local macro_rules | `(tactic| walk_at "execs cons") => `(tactic| (k_here; (with_reducible refine' gentokS ?hp ?_); (case hp => omega); intro tk htk))
local macro_rules | `(tactic| walk_at "execs nil") => `(tactic| (k_here; (with_reducible refine' gentokS ?hp ?_); (case hp => omega); intro tk htk))
local macro_rules | `(tactic| walk_at "call builtin:str.replace") => `(tactic| (k_here; k_dflt (refine' SC.replaceW ?k1 ?k2 ?k3 ?k4 ?k5 ?k6 ?_; (case k1 | k2 | k3 => ((show @Ne Nat _ _); omega)); (case k4 => decide +kernel); (case k5 => omega); (case k6 => decide +kernel)); intro _ _))
local macro_rules | `(tactic| walk_at "RepPost") => `(tactic| first | (refine' repPost_no (t := _) ?k1 ?k2 ?k3 ?k4 ?k5 ?k6; (case k1 | k2 => k_asm); (case k3 => rfl); (case k4 => decide +kernel); (case k5 => assumption); (case k6 => omega)) | exact ⟨rfl, _, _, _, rfl, by omega, by k_asm, by k_asm⟩)
local macro_rules | `(tactic| walk_at "eval Name") => `(tactic| ((with_reducible show wpAny _ _ (eval _ _) _ _ _); refine nameX_L (by assumption) (by assumption) ?_ (by assumption) (by assumption)))
local macro_rules | `(tactic| walk_at "storeName") => `(tactic| ((with_reducible show wpAny _ _ (storeName _ _ _) _ _ _); refine storeX_L (by assumption) (by assumption) (fun _ _ _ => ?_) (by assumption) (by assumption)))
theorem if_rep {A : Around} {c r : String} {k1 k2 k3 : Nat} {p1 p2 p3 p4 p5 p6 p7 p8 p9 p10 p11 : Pos} {f : Nat → List Nat} {x : Str} {t : Tok} {Q : Flow → Shared → Prop}
  (hk : cs.kind = .function) (hX : (envX cn cs L a ccd cl).kindOf (Str.ofString "text") = some .local)
  (F : Fr h₀ L s.heap m) (N : News h₀ L s.heap news) (hm : m "text" = some (.str (fm f x) t))
  (hc : Str.ofString c = ⟨#[(Str.ofString c).cps.getD 0 0]⟩) (hb : ∀ a, ((f a).flatMap (one ((Str.ofString c).cps.getD 0 0) (Str.ofString r).cps.toList)).length ≤ 6)
  (hyz : (Str.ofString c == Str.ofString r) = false) (hz : (Str.ofString r).length ≤ 14) (hl : (fm f x).length ≤ 1048576)
  (h2 : ∀ t' h' tk', 0 < tk' → Fr h₀ L h' (fun y => if y = "text" then some (.str (fm (fun a => (f a).flatMap (one ((Str.ofString c).cps.getD 0 0) (Str.ofString r).cps.toList)) x) t') else m y) → News h₀ L h' news →
     (fm (fun a => (f a).flatMap (one ((Str.ofString c).cps.getD 0 0) (Str.ofString r).cps.toList)) x).length ≤ 6 * x.length → Q .next { s with heap := h', toks := tk' })
  {pl : Sem Bool} (he : eval (.Call (.Attribute (.Name (Str.ofString "text") p5) (Str.ofString "replace") p6) [.Constant (.str (Str.ofString c)) k2 p7, .Constant (.str (Str.ofString r)) k3 p8] [] p9) (envX cn cs L a ccd cl) = (do
      let ov ← eval (.Name (Str.ofString "text") p5) (envX cn cs L a ccd cl)
      standAt p6.atName
      let (f, first) ← holding [ov] (getMethod ov (Str.ofString "replace") pl)
      callWith p9 f first (backTo p9 (starEach [.Constant (.str (Str.ofString c)) k2 p7, .Constant (.str (Str.ofString r)) k3 p8] (envX cn cs L a ccd cl))) [])) :
  wpAny (model prog w) A (exec (.If (.Compare (.Constant (.str (Str.ofString c)) k1 p1) [.In] [.Name (Str.ofString "text") p2] p3) [.Assign [.Name (Str.ofString "text") p4] (.Call (.Attribute (.Name (Str.ofString "text") p5) (Str.ofString "replace") p6) [.Constant (.str (Str.ofString c)) k2 p7, .Constant (.str (Str.ofString r)) k3 p8] [] p9) p10] [] p11) (envX cn cs L a ccd cl)) Q E s := by
  refine cut_fm F N hm hc hb ?_ h2
  obtain ⟨h0, g1, g2, tk0, g3⟩ := s
  dsimp only at F N ⊢
  clear h2 hb
  k_steps
  · exact repPost_no F N hm hc (by assumption) (Nat.succ_pos _)
  refine MethodCall_ ?_ he
  k_steps
end
local macro_rules | `(tactic| walk_at "escE") => `(tactic| (refine esc_cases (by decide +kernel) (fun a h1 h2 h3 h4 h5 h6 h7 => ?_); simp only [List.flatMap_cons, List.flatMap_nil, List.append_nil, one, cA, cB, cC, cD, cE, cF, cG, h1, h2, h3, h4, h5, h6, h7, if_false]; exact (spell_other _ a h1 h2 h3 h4 h5 h6 h7).symm))
local macro_rules | `(tactic| walk_at "esc6") => `(tactic| (refine esc_cases (by decide +kernel) (fun a h1 h2 h3 h4 h5 h6 h7 => ?_); simp only [List.flatMap_cons, List.flatMap_nil, List.append_nil, one, cA, cB, cC, cD, cE, cF, cG, h1, h2, h3, h4, h5, h6, h7, if_false]; exact Nat.le_of_ble_eq_true rfl))
local macro_rules | `(tactic| walk_at "exec If") => `(tactic| (k_here; k_dflt (refine' cut_fm (t := _) ?k1 ?k2 ?k3 ?k5 ?k6 ?_ ?_; (case k1 | k2 => k_asm); (case k3 => rfl); (case k5 => decide +kernel); (case k6 => walk_at "esc6")); all_goals (try intro t' h' tk' htk F' N' hl')))
local macro_rules | `(tactic| walk_at "execs cons") => `(tactic| (k_here; (with_reducible refine' gentokS ?hp ?_); (case hp => omega); intro tk htk))
local macro_rules | `(tactic| walk_at "exec If") => `(tactic| (k_dflt (refine' if_rep (t := _) ?k1 ?k2 ?F ?N ?k3 ?k4 ?k5 ?k6 ?k7 ?k8 ?_ ?k0; (case k1 | k2 => rfl); (case F | N => k_asm); (case k3 => rfl); (case k4 => decide +kernel); (case k5 => walk_at "esc6"); (case k6 | k7 => decide +kernel); (case k8 => omega); (case k0 => rfl)); intro _ _ _ _ _ _ _))
theorem ret_fm {f g : Nat → List Nat} {x : Str} {t : Tok} {s : Shared} (h : ∀ a, f a = g a) (r : Q (.str (fm g x) t) s) : Q (.str (fm f x) t) s := by rw [fm_congr x h]; exact r
theorem c_esc0 (B : Below A₀ base outer h₀) (F : Fr h₀ L s.heap m) (X : (pre.heap_1_39 w.params).In h₀) (N : News h₀ L s.heap news) (T : Top p loose mean mg mb h₀) (hk : cs.kind = .function)
   (hd : dp + 1 < recursionLimit) (hu : un + 8 < cLine) (x : Str) (t : Tok) (hx : x.length ≤ 1000)
   (ret : ∀ t' h' tk', Fr h₀ L h' m → News h₀ L h' news → Q (.str (fm (spell 0) x) t') { s with heap := h', toks := tk' }) :
   wpAny (model prog w) (ktrTop dp un gd cn cs L a ccd cl outer) (call (.ref 87) [.str x t]) Q E s := by
  w_top off
  have hx0 : (fm (fun a => [a]) x).length ≤ 1000 := by rw [fm_id]; exact hx
  rw [show Value.str x t = Value.str (fm (fun a => [a]) x) t by rw [fm_id]]
  refine wpAny_call ?_
  k_dflt cell_enter
  (with_unfolding_all rename (Fr _ _ _ _) => F1; change Fr _ _ _ (fun y => List.lookup y [(Str.ofString "text", Value.str _ _)]) at F1)
  k_steps
  refine ret_fm ?_ (ret _ _ _ (by assumption) (by assumption))
  walk_at "escE"
theorem c_esc1 (B : Below A₀ base outer h₀) (F : Fr h₀ L s.heap m) (X : (pre.heap_1_39 w.params).In h₀) (N : News h₀ L s.heap news) (T : Top p loose mean mg mb h₀) (hk : cs.kind = .function)
   (hd : dp + 1 < recursionLimit) (hu : un + 8 < cLine) (x : Str) (t : Tok) (hx : x.length ≤ 1000)
   (ret : ∀ t' h' tk', Fr h₀ L h' m → News h₀ L h' news → Q (.str (fm (spell 1) x) t') { s with heap := h', toks := tk' }) :
   wpAny (model prog w) (ktrTop dp un gd cn cs L a ccd cl outer) (call (.ref 94) [.str x t]) Q E s := by
  w_top off
  have hx0 : (fm (fun a => [a]) x).length ≤ 1000 := by rw [fm_id]; exact hx
  rw [show Value.str x t = Value.str (fm (fun a => [a]) x) t by rw [fm_id]]
  refine wpAny_call ?_
  k_dflt cell_enter
  (with_unfolding_all rename (Fr _ _ _ _) => F1; change Fr _ _ _ (fun y => List.lookup y [(Str.ofString "text", Value.str _ _)]) at F1)
  k_steps
  refine ret_fm ?_ (ret _ _ _ (by assumption) (by assumption))
  walk_at "escE"
theorem c_esc2 (B : Below A₀ base outer h₀) (F : Fr h₀ L s.heap m) (X : (pre.heap_1_39 w.params).In h₀) (N : News h₀ L s.heap news) (T : Top p loose mean mg mb h₀) (hk : cs.kind = .function)
   (hd : dp + 1 < recursionLimit) (hu : un + 8 < cLine) (x : Str) (t : Tok) (hx : x.length ≤ 1000)
   (ret : ∀ t' h' tk', Fr h₀ L h' m → News h₀ L h' news → Q (.str (fm (spell 2) x) t') { s with heap := h', toks := tk' }) :
   wpAny (model prog w) (ktrTop dp un gd cn cs L a ccd cl outer) (call (.ref 101) [.str x t]) Q E s := by
  w_top off
  have hx0 : (fm (fun a => [a]) x).length ≤ 1000 := by rw [fm_id]; exact hx
  rw [show Value.str x t = Value.str (fm (fun a => [a]) x) t by rw [fm_id]]
  refine wpAny_call ?_
  k_dflt cell_enter
  (with_unfolding_all rename (Fr _ _ _ _) => F1; change Fr _ _ _ (fun y => List.lookup y [(Str.ofString "text", Value.str _ _)]) at F1)
  k_steps
  refine ret_fm ?_ (ret _ _ _ (by assumption) (by assumption))
  walk_at "escE"
theorem c_esc3 (B : Below A₀ base outer h₀) (F : Fr h₀ L s.heap m) (X : (pre.heap_1_39 w.params).In h₀) (N : News h₀ L s.heap news) (T : Top p loose mean mg mb h₀) (hk : cs.kind = .function)
   (hd : dp + 1 < recursionLimit) (hu : un + 8 < cLine) (x : Str) (t : Tok) (hx : x.length ≤ 1000)
   (ret : ∀ t' h' tk', Fr h₀ L h' m → News h₀ L h' news → Q (.str (fm (spell 3) x) t') { s with heap := h', toks := tk' }) :
   wpAny (model prog w) (ktrTop dp un gd cn cs L a ccd cl outer) (call (.ref 108) [.str x t]) Q E s := by
  w_top off
  have hx0 : (fm (fun a => [a]) x).length ≤ 1000 := by rw [fm_id]; exact hx
  rw [show Value.str x t = Value.str (fm (fun a => [a]) x) t by rw [fm_id]]
  refine wpAny_call ?_
  k_dflt cell_enter
  (with_unfolding_all rename (Fr _ _ _ _) => F1; change Fr _ _ _ (fun y => List.lookup y [(Str.ofString "text", Value.str _ _)]) at F1)
  k_steps
  refine ret_fm ?_ (ret _ _ _ (by assumption) (by assumption))
  walk_at "escE"
theorem c_esc4 (B : Below A₀ base outer h₀) (F : Fr h₀ L s.heap m) (X : (pre.heap_1_39 w.params).In h₀) (N : News h₀ L s.heap news) (T : Top p loose mean mg mb h₀) (hk : cs.kind = .function)
   (hd : dp + 1 < recursionLimit) (hu : un + 8 < cLine) (x : Str) (t : Tok) (hx : x.length ≤ 1000)
   (ret : ∀ t' h' tk', Fr h₀ L h' m → News h₀ L h' news → Q (.str (fm (spell 4) x) t') { s with heap := h', toks := tk' }) :
   wpAny (model prog w) (ktrTop dp un gd cn cs L a ccd cl outer) (call (.ref 115) [.str x t]) Q E s := by
  w_top off
  have hx0 : (fm (fun a => [a]) x).length ≤ 1000 := by rw [fm_id]; exact hx
  rw [show Value.str x t = Value.str (fm (fun a => [a]) x) t by rw [fm_id]]
  refine wpAny_call ?_
  k_dflt cell_enter
  (with_unfolding_all rename (Fr _ _ _ _) => F1; change Fr _ _ _ (fun y => List.lookup y [(Str.ofString "text", Value.str _ _)]) at F1)
  k_steps
  refine ret_fm ?_ (ret _ _ _ (by assumption) (by assumption))
  walk_at "escE"
end
end
section
open PySem PySem.W PyProof.Rows
section
variable {prog p : Program} {w : World} {loose : List Str} {mean : ExcName → Option Value} {mg mb : Str → Option Value} {dp un : Nat} {gd : Option (List Code)} {cn : Str} {cs : Scope} {a : Addr} {ccd : Value} {cl : List (Str × Addr)} {outer : List Env} {A₀ : Around} {base h₀ : Heap} {L : Addr} {m : Str → Option Value} {s : Shared} {Q E : Value → Shared → Prop} {news : List (Addr × Obj)}
theorem c_isnt (B : Below A₀ base outer h₀) (F : Fr h₀ L s.heap m) (X : (pre.heap_1_39 w.params).In h₀) (N : News h₀ L s.heap news) (T : Top p loose mean mg mb h₀) (hk : cs.kind = .function)
   (hd : dp + 1 < recursionLimit) (hu : un + 8 < cLine) (x : Int) (t : Tok) (ret : ∀ h' tk', Fr h₀ L h' m → News h₀ L h' news → Q (.bool (decide (256 ≤ x))) { s with heap := h', toks := tk' }) :
   wpAny (model prog w) (ktrTop dp un gd cn cs L a ccd cl outer) (call (.ref 66) [.int x t]) Q E s := by
  w_top off
  refine wpAny_call ?_
  k_dflt cell_enter
  k_steps
  rename News h₀ L _ _ => kN
  rename Fr h₀ L _ _ => kF
  exact ret _ _ kF kN
theorem c_iseof (B : Below A₀ base outer h₀) (F : Fr h₀ L s.heap m) (X : (pre.heap_1_39 w.params).In h₀) (N : News h₀ L s.heap news) (T : Top p loose mean mg mb h₀) (hk : cs.kind = .function)
   (hd : dp + 1 < recursionLimit) (hu : un + 8 < cLine) (x : Int) (t : Tok) (ret : ∀ h' tk', Fr h₀ L h' m → News h₀ L h' news → Q (.bool (decide (x = 0))) { s with heap := h', toks := tk' }) :
   wpAny (model prog w) (ktrTop dp un gd cn cs L a ccd cl outer) (call (.ref 73) [.int x t]) Q E s := by
  w_top off
  refine wpAny_call ?_
  k_dflt cell_enter
  k_steps
  rename News h₀ L _ _ => kN
  rename Fr h₀ L _ _ => kF
  exact ret _ _ kF kN
theorem c_number (B : Below A₀ base outer h₀) (F : Fr h₀ L s.heap m) (X : (pre.heap_1_39 w.params).In h₀) (N : News h₀ L s.heap news) (T : Top p loose mean mg mb h₀) (hk : cs.kind = .function)
   (hd : dp + 1 < recursionLimit) (hu : un + 8 < cLine) (x : Str) (t : Tok) (ret : ∀ t' h' tk', Fr h₀ L h' m → News h₀ L h' news → Q (.int (numL x.cps.toList) t') { s with heap := h', toks := tk' }) :
   wpAny (model prog w) (ktrTop dp un gd cn cs L a ccd cl outer) (call (.ref 160) [.str x t]) Q E s := by
  w_top off
  refine wpAny_call ?_
  k_dflt cell_enter
  k_steps
  rename News h₀ L _ _ => kN
  rename Fr h₀ L _ _ => kF
  rename PyProof.V.Flat _ _ => hv
  obtain ⟨t', rfl⟩ := num_flat hv
  exact ret _ _ _ kF kN
end
end
section
open PySem PySem.W PyProof.Rows
section
variable {prog p : Program} {w : World} {loose : List Str} {mean : ExcName → Option Value} {mg mb : Str → Option Value} {dp un : Nat} {gd : Option (List Code)} {cn : Str} {cs : Scope} {a : Addr} {ccd : Value} {cl : List (Str × Addr)} {outer : List Env} {A₀ : Around} {base h₀ : Heap} {L : Addr} {m : Str → Option Value} {s : Shared} {Q E : Value → Shared → Prop} {news : List (Addr × Obj)}
local macro_rules | `(tactic| walk_at "call ref") => `(tactic| (k_here; (with_reducible show wpAny _ _ (call (Value.ref _) [Value.str _ _]) _ _ _); refine Stop.out ?_))
theorem c_written (B : Below A₀ base outer h₀) (F : Fr h₀ L s.heap m) (X : (pre.heap_1_39 w.params).In h₀) (N : News h₀ L s.heap news) (T : Top p loose mean mg mb h₀) (hk : cs.kind = .function)
   (hd : dp + 2 < recursionLimit) (hu : un + 14 < cLine) (x : Str) (t t2 : Tok) (i : Int) (h0 : 0 ≤ i) (h5 : i < 5) (hx : x.length ≤ 1000)
   (ret : ∀ t' h' tk', Fr h₀ L h' m → News h₀ L h' news → Q (.str (fm (spell i.toNat) x) t') { s with heap := h', toks := tk' }) :
   wpAny (model prog w) (ktrTop dp un gd cn cs L a ccd cl outer) (call (.ref 129) [.str x t, .int i t2]) Q E s := by
  w_top off
  have h : i = 0 ∨ i = 1 ∨ i = 2 ∨ i = 3 ∨ i = 4 := by omega
  rcases h with rfl | rfl | rfl | rfl | rfl
  · clear h0 h5
    refine wpAny_call ?_
    k_dflt cell_enter
    k_steps
    refine Stop.intro ?_
    k_dflt (refine' c_esc0 ?kB_0 ?kF_0 ?kX_0 ?kN_0 ?kT_0 ?kK_0 ?kd_0 ?ku_0 _ _ ?kx_0 ?_; (case kB_0 => k_asm); (case kF_0 => k_asm); (case kX_0 => k_asm); (case kN_0 => k_asm); (case kT_0 => k_asm); (case kK_0 => first | exact rfl | assumption); (case kd_0 => ktr_room); (case ku_0 => ktr_units); (case kx_0 => assumption))
    intro t9 h9 tk9 F9 N9
    (try k_fold)
    k_steps
    rename News h₀ L _ _ => kN
    rename Fr h₀ L _ _ => kF
    exact ret _ _ _ kF (fun q hq => kN q (List.mem_cons_of_mem _ hq))
  · clear h0 h5
    refine wpAny_call ?_
    k_dflt cell_enter
    k_steps
    refine Stop.intro ?_
    k_dflt (refine' c_esc1 ?kB_1 ?kF_1 ?kX_1 ?kN_1 ?kT_1 ?kK_1 ?kd_1 ?ku_1 _ _ ?kx_1 ?_; (case kB_1 => k_asm); (case kF_1 => k_asm); (case kX_1 => k_asm); (case kN_1 => k_asm); (case kT_1 => k_asm); (case kK_1 => first | exact rfl | assumption); (case kd_1 => ktr_room); (case ku_1 => ktr_units); (case kx_1 => assumption))
    intro t9 h9 tk9 F9 N9
    (try k_fold)
    k_steps
    rename News h₀ L _ _ => kN
    rename Fr h₀ L _ _ => kF
    exact ret _ _ _ kF (fun q hq => kN q (List.mem_cons_of_mem _ hq))
  · clear h0 h5
    refine wpAny_call ?_
    k_dflt cell_enter
    k_steps
    refine Stop.intro ?_
    k_dflt (refine' c_esc2 ?kB_2 ?kF_2 ?kX_2 ?kN_2 ?kT_2 ?kK_2 ?kd_2 ?ku_2 _ _ ?kx_2 ?_; (case kB_2 => k_asm); (case kF_2 => k_asm); (case kX_2 => k_asm); (case kN_2 => k_asm); (case kT_2 => k_asm); (case kK_2 => first | exact rfl | assumption); (case kd_2 => ktr_room); (case ku_2 => ktr_units); (case kx_2 => assumption))
    intro t9 h9 tk9 F9 N9
    (try k_fold)
    k_steps
    rename News h₀ L _ _ => kN
    rename Fr h₀ L _ _ => kF
    exact ret _ _ _ kF (fun q hq => kN q (List.mem_cons_of_mem _ hq))
  · clear h0 h5
    refine wpAny_call ?_
    k_dflt cell_enter
    k_steps
    refine Stop.intro ?_
    k_dflt (refine' c_esc3 ?kB_3 ?kF_3 ?kX_3 ?kN_3 ?kT_3 ?kK_3 ?kd_3 ?ku_3 _ _ ?kx_3 ?_; (case kB_3 => k_asm); (case kF_3 => k_asm); (case kX_3 => k_asm); (case kN_3 => k_asm); (case kT_3 => k_asm); (case kK_3 => first | exact rfl | assumption); (case kd_3 => ktr_room); (case ku_3 => ktr_units); (case kx_3 => assumption))
    intro t9 h9 tk9 F9 N9
    (try k_fold)
    k_steps
    rename News h₀ L _ _ => kN
    rename Fr h₀ L _ _ => kF
    exact ret _ _ _ kF (fun q hq => kN q (List.mem_cons_of_mem _ hq))
  · clear h0 h5
    refine wpAny_call ?_
    k_dflt cell_enter
    k_steps
    refine Stop.intro ?_
    k_dflt (refine' c_esc4 ?kB_4 ?kF_4 ?kX_4 ?kN_4 ?kT_4 ?kK_4 ?kd_4 ?ku_4 _ _ ?kx_4 ?_; (case kB_4 => k_asm); (case kF_4 => k_asm); (case kX_4 => k_asm); (case kN_4 => k_asm); (case kT_4 => k_asm); (case kK_4 => first | exact rfl | assumption); (case kd_4 => ktr_room); (case ku_4 => ktr_units); (case kx_4 => assumption))
    intro t9 h9 tk9 F9 N9
    (try k_fold)
    k_steps
    rename News h₀ L _ _ => kN
    rename Fr h₀ L _ _ => kF
    exact ret _ _ _ kF (fun q hq => kN q (List.mem_cons_of_mem _ hq))
end
end
section
open PySem PySem.W PyProof.Rows
section
variable {prog p : Program} {w : World} {loose : List Str} {mean : ExcName → Option Value} {mg mb : Str → Option Value} {dp un : Nat} {gd : Option (List Code)} {cn : Str} {cs : Scope} {a : Addr} {ccd : Value} {cl : List (Str × Addr)} {outer : List Env} {A₀ : Around} {base h₀ : Heap} {L : Addr} {m : Str → Option Value} {s : Shared} {Q E : Value → Shared → Prop} {news : List (Addr × Obj)}
theorem c_spelled (B : Below A₀ base outer h₀) (F : Fr h₀ L s.heap m) (X : (pre.heap_1_39 w.params).In h₀) (N : News h₀ L s.heap news) (T : Top p loose mean mg mb h₀) (hk : cs.kind = .function)
   (hd : dp + 1 < recursionLimit) (hu : un + 14 < cLine)
   (ret : ∀ (l d0 d1 d2 d3 d4 : Addr) o0 o1 o2 o3 o4 n h' tk', Fr h₀ L h' m → News h₀ L h' ((l, listOf #[.ref d0, .ref d1, .ref d2, .ref d3, .ref d4] n) :: (d4, o4) :: (d3, o3) :: (d2, o2) :: (d1, o1) :: (d0, o0) :: news) →
     DictS prog w d0 o0 (tabD 0) → DictS prog w d1 o1 (tabD 1) → DictS prog w d2 o2 (tabD 2) → DictS prog w d3 o3 (tabD 3) → DictS prog w d4 o4 (tabD 4) →
     (∀ q ∈ news, q.1 < d0) → @LT.lt Nat _ d0 d1 → @LT.lt Nat _ d1 d2 → @LT.lt Nat _ d2 d3 → @LT.lt Nat _ d3 d4 → @LT.lt Nat _ d4 l → Q (.ref l) { s with heap := h', toks := tk' }) :
   wpAny (model prog w) (ktrTop dp un gd cn cs L a ccd cl outer) (call (.ref 136) []) Q E s := by
  w_top off
  refine wpAny_call ?_
  k_dflt cell_enter
  repeat' (first | (with_reducible refine unh (by assumption) ?_; try dsimp only) | (k_unfold; (try dsimp only)) | (k_end; wrow_close) | (dsimp only; walk1) | walk1 | (leave1; walk_say "STEP leave1"; try dsimp only) | fail "no step")
  rename News h₀ L _ _ => kN
  rename Fr h₀ L _ _ => kF
  exact ret _ _ _ _ _ _ _ _ _ _ _ _ _ _ kF kN (dictS_of (by assumption) (by assumption) (by assumption) (by kernel_rfl)) (dictS_of (by assumption) (by assumption) (by assumption) (by kernel_rfl)) (dictS_of (by assumption) (by assumption) (by assumption) (by kernel_rfl)) (dictS_of (by assumption) (by assumption) (by assumption) (by kernel_rfl)) (dictS_of (by assumption) (by assumption) (by assumption) (by kernel_rfl))
    (by assumption) (by omega) (by omega) (by omega) (by omega) (by omega)
end
end
section
open PySem PySem.W PyProof.Rows
section
variable {prog p : Program} {w : World} {loose : List Str} {mean : ExcName → Option Value} {mg mb : Str → Option Value} {dp un : Nat} {gd : Option (List Code)} {cn : Str} {cs : Scope} {a : Addr} {ccd : Value} {cl : List (Str × Addr)} {outer : List Env} {A₀ : Around} {base h₀ : Heap} {L : Addr} {m : Str → Option Value} {s : Shared} {Q E : Value → Shared → Prop} {news : List (Addr × Obj)}
theorem fm13 (x : Int) : 0 ≤ x.fmod 13 ∧ x.fmod 13 < 13 := ⟨fmod_lo _ (by decide), fmod_hi _ (by decide)⟩
theorem item_sign (c k : Int) (h0 : 0 ≤ k) (h : k < 13) : Txt.item (Str.ofString "x \n\t\r\"\\&<>=;" ++ ⟨#[(161 + (c.fdiv 169).fmod 55135).toNat]⟩) k = ⟨#[signOf c k]⟩ := by
  rw [show Str.ofString "x \n\t\r\"\\&<>=;" = ⟨#[120, 32, 10, 9, 13, 34, 92, 38, 60, 62, 61, 59]⟩ from by decide +kernel]
  unfold signOf
  generalize (161 + (c.fdiv 169).fmod 55135).toNat = n
  have h' : k = 0 ∨ k = 1 ∨ k = 2 ∨ k = 3 ∨ k = 4 ∨ k = 5 ∨ k = 6 ∨ k = 7 ∨ k = 8 ∨ k = 9 ∨ k = 10 ∨ k = 11 ∨ k = 12 := by omega
  rcases h' with rfl | rfl | rfl | rfl | rfl | rfl | rfl | rfl | rfl | rfl | rfl | rfl | rfl <;> rfl
theorem letter_text (c : Int) : Str.ofString "&=" ++ Txt.item (Str.ofString "x \n\t\r\"\\&<>=;" ++ ⟨#[(161 + (c.fdiv 169).fmod 55135).toNat]⟩) (c.fmod 13) ++ Txt.item (Str.ofString "x \n\t\r\"\\&<>=;" ++ ⟨#[(161 + (c.fdiv 169).fmod 55135).toNat]⟩) ((c.fdiv 13).fmod 13) = ⟨(letterL c).toArray⟩ := by
  rw [item_sign c _ (fm13 _).1 (fm13 _).2, item_sign c _ (fm13 _).1 (fm13 _).2, show Str.ofString "&=" = ⟨#[38, 61]⟩ from by decide +kernel]
  rfl
local macro_rules | `(tactic| walk_at "subscriptTail Name Name str int") => `(tactic| (k_here; (with_reducible show wpAny _ _ (subscriptTail _ _ (Value.str _ _) (Value.int (Int.fmod _ _) _)) _ _ _); (refine KXi.item (n := 13) (by rfl) (Int.le_trans (by decide) (fm13 _).1) (fm13 _).2 (by decide) ?_); intro kxiE))
local macro_rules | `(tactic| walk_at "newTuple") => `(tactic| (k_here; k_dflt (refine' newTuple_B ?F ?N ?_ ?z; (case F | N => k_asm); (case z => size_fits)); intro D9 h9 F9 N9 l9 m9; (try k_lt l9); (try k_lt2 m9)))
noncomputable abbrev tupOf (vs : List Value) : Obj := { cls := .type "tuple", data := .seq vs.toArray }
theorem c_letter (B : Below A₀ base outer h₀) (F : Fr h₀ L s.heap m) (X : (pre.heap_1_39 w.params).In h₀) (N : News h₀ L s.heap news) (T : Top p loose mean mg mb h₀) (hk : cs.kind = .function)
   (hd : dp + 1 < recursionLimit) (hu : un + 14 < cLine) (c d : Int) (t1 t2 : Tok)
   (ret : ∀ (tp l : Addr) t' vs h' tk', IntsAre vs (handsOf d) → Fr h₀ L h' m → News h₀ L h' ((tp, tupOf [.str ⟨(letterL c).toArray⟩ t', .ref l]) :: (l, listOf vs.toArray 0) :: news) → (∀ q ∈ news, q.1 < l) → @LT.lt Nat _ l tp → Q (.ref tp) { s with heap := h', toks := tk' }) :
   wpAny (model prog w) (ktrTop dp un gd cn cs L a ccd cl outer) (call (.ref 143) [.int c t1, .int d t2]) Q E s := by
  w_top off
  refine wpAny_call ?_
  k_dflt (refine' enterS (shown := []) ?k1 ?k2 ?k3 ?k4 ?kh ?ko ?k5 ?kA ?kF ?kK ?k6 ?k7 ?k8 ?k9 ?kB ?_ ?c2 ?c3 ?c4 ?c5; (case kA => exact rfl); (case kF => exact rfl); (case kK => assumption); (case k1 => k_asm); (case k2 => k_asm); (case k3 => k_asm); (case k4 => exact News.nil); (case kh => k_asm); (case ko => exact fun _ _ _ h => nomatch h); (case k5 => k_asm); (case k6 => k_is); (case k7 => k_is); (case k8 => ktr_room); (case k9 => exact BindsTo.of_eq rfl); (case c5 => decide); (case kB => exact locs rfl); (case c2 => exact rfl); (case c3 => exact rfl); (case c4 => exact rfl); k_whole; intro g' L' h' FG' F' N' B' X' T' l1 hG' hL'; clear l1; (try dsimp only); (try k_lift B'); (try k_fold))
  clear B F X N T
  k_steps
  rename Fr _ _ _ _ => fF
  rename News _ _ _ _ => fN
  rename IntsAre _ _ => fI
  (show LeaveK _ _ _ _ _ _ _)
  rw [letter_text] at fN
  refine leaveK_ fF fN (fun kF kN kH => ?_)
  exact ret _ _ _ _ _ _ fI kF (news_pick (want := [_, _]) kN kH ⟨.head _, .tail _ (.head _), trivial⟩) (lt_news (by assumption) (by omega)) (by omega)
end
end
section
open PySem PySem.W PyProof.Rows
section
variable {prog p : Program} {w : World} {loose : List Str} {mean : ExcName → Option Value} {mg mb : Str → Option Value} {dp un : Nat} {gd : Option (List Code)} {cn : Str} {cs : Scope} {a : Addr} {ccd : Value} {cl : List (Str × Addr)} {outer : List Env} {A₀ : Around} {base h₀ : Heap} {L : Addr} {m : Str → Option Value} {s : Shared} {Q E : Value → Shared → Prop} {news : List (Addr × Obj)}
local macro_rules | `(tactic| walk_at "call ref") => `(tactic| (k_here; (with_reducible show wpAny _ _ (call (Value.ref 136) _) _ _ _); k_dflt (refine' c_spelled ?kB ?kF ?kX ?kN ?kT ?kK ?kd ?ku ?_; (case kB | kF | kX | kN | kT | kK => first | k_asm | exact rfl); (case kd | ku => first | ktr_room | ktr_units)); intro l9 d0 d1 d2 d3 d4 o0 o1 o2 o3 o4 n9 h9 tk9 F9 N9 S0 S1 S2 S3 S4 q0 q1 q2 q3 q4 q5; have q6 := q0; (try k_lt q0); (try k_fold)))
local macro_rules | `(tactic| walk_at "subscriptTail") => `(tactic| (k_here; (with_reducible show wpAny _ _ (subscriptTail _ _ (Value.ref _) (Value.int _ _)) _ _ _); k_dflt (refine' item_spelled ?N ?S0 ?S1 ?S2 ?S3 ?S4 ?q0 ?q1 ?q2 ?q3 ?q4 ?h0 ?h5 ?_; (case N => k_asm); (case S0 | S1 | S2 | S3 | S4 | q0 => assumption); (case q1 | q2 | q3 | q4 => omega); (case h0 | h5 => assumption)); intro d9 o9 S9 N9 O9; obtain ⟨lo9, kvs9, hd9, hf9⟩ := S9; (try simp only [Off, and_true] at O9)))
local macro_rules | `(tactic| walk_at "TextSrc") => `(tactic| (refine ⟨_, _, _, rfl, rfl, by k_asm, by k_asm, by first | (rw [PySem.sizeLine_eq]; (show Str.length _ ≤ _); omega), fun c9 t9 I9 oI9 C9 oC9 D9 m9 ys9 h9 tk9 E9 hc9 hC9 hx9 F9 N9 off9 => ?_, fun D9 ys9 h9 tk9 hy9 F9 N9 O9 => ?_⟩ <;> (try simp only [Off, LCg.Off3, and_true] at *)))
local macro_rules | `(tactic| walk_at "TextEl") => `(tactic| ((rename PyProof.V.Flat _ _ => hv9); obtain ⟨t9, e9⟩ := spell_flat hv9; subst e9; exact ⟨_, _, _, rfl, rfl, by k_asm, by k_asm⟩))
local macro_rules | `(tactic| walk_at "call builtin:str.join") => `(tactic| (k_here; k_dflt (refine' join_text (b := 6) ?N ?hy ?hb ?hx ?_; (case N => k_asm); (case hy => assumption); (case hb => exact fun c => spell_len _ c); (case hx => omega)); intro hl9 t9 k9))
local macro_rules | `(tactic| walk_at "eval ListComp") => `(tactic| (k_here; refine Stop.out ?_))
theorem c_layers0 {hl : Addr}  (B : Below A₀ base outer h₀) (F : Fr h₀ L s.heap m) (X : (pre.heap_1_39 w.params).In h₀) (N : News h₀ L s.heap ((hl, listOf #[] 0) :: news)) (T : Top p loose mean mg mb h₀) (hk : cs.kind = .function)
   (hd : dp + 3 < recursionLimit) (hu : un + 22 < cLine) (x : Str) (t : Tok)  (off : Off hl news) (hx : x.length ≤ 10)
   (ret : ∀ (l : Addr) vs n h' tk', StrsAre vs (layersS x []) → Fr h₀ L h' m → News h₀ L h' ((l, listOf vs.toArray n) :: (hl, listOf #[] 0) :: news) → (∀ q ∈ (hl, listOf #[] 0) :: news, q.1 < l) → Q (.ref l) { s with heap := h', toks := tk' }) :
   wpAny (model prog w) (ktrTop dp un gd cn cs L a ccd cl outer) (call (.ref 148) [.str x t, .ref hl]) Q E s := by
  w_top off
  have NS : News h₀ L s.heap [(hl, listOf #[] 0)] := fun q hq => N q (by simp at hq; simp [hq])
  have NH : News h₀ L s.heap news := fun q hq => N q (.tail _ hq)
  have ko : ∀ p ∈ news, ∀ q ∈ [(hl, listOf #[] 0)], p.1 ≠ q.1 := fun p hp q hq => by simp at hq; subst hq; exact off.mem p hp
  refine wpAny_call ?_
  k_dflt (refine' enterCS  ?k1 ?k2 ?k3 ?k4 ?kh ?ko ?k5 ?kA ?kF ?kK ?k6 ?k7 ?k8 ?k9 ?kB ?kD ?_ ?c2 ?c3 ?c4; (case kA => exact rfl); (case kF => exact rfl); (case kK => assumption); (case k1 => k_asm); (case k2 => k_asm); (case k3 => k_asm); (case k4 => ((rename News _ _ _ (_ :: _) => nS); exact nS)); (case kh => k_asm); (case ko => assumption); (case k5 => k_asm); (case k6 => k_is); (case k7 => k_is); (case k8 => ktr_room); (case k9 => exact BindsTo.of_eq rfl); (case kB => exact rfl); (case kD => decide +kernel); (case c2 => exact rfl); (case c3 => exact rfl); (case c4 => exact rfl); k_whole; intro g' L' h' tk' cells' FG' F' N' Y' B' X' T' l1 hG' hL'; (try k_lt l1); k_cells Y'; (try simp only [List.cons_append, List.nil_append, List.append_nil] at N'); (try dsimp only); (try k_lift B'); (try k_fold))
  clear B F X N T NS NH ko
  k_steps
  rename Fr _ _ _ _ => fF
  rename News _ _ _ _ => fN
  (show LeaveK _ _ _ _ _ _ _)
  refine leaveK_ fF fN (fun kF kN kH => ?_)
  exact ret _ _ _ _ _ (.cons _ _ .nil) kF (news_pick (want := [_, _]) kN kH ⟨.head _, by k_mem, trivial⟩) (List.forall_mem_cons.mpr ⟨by (show @LT.lt Nat _ _ _); omega, lt_news (by assumption) (by omega)⟩)
theorem c_layers1 {hl : Addr} {i : Int} {iu : Tok} (B : Below A₀ base outer h₀) (F : Fr h₀ L s.heap m) (X : (pre.heap_1_39 w.params).In h₀) (N : News h₀ L s.heap ((hl, listOf #[.int i iu] 0) :: news)) (T : Top p loose mean mg mb h₀) (hk : cs.kind = .function)
   (hd : dp + 3 < recursionLimit) (hu : un + 22 < cLine) (x : Str) (t : Tok) (i0 : 0 ≤ i) (i5 : i < 5) (off : Off hl news) (hx : x.length ≤ 10)
   (ret : ∀ (l : Addr) vs n h' tk', StrsAre vs (layersS x [i]) → Fr h₀ L h' m → News h₀ L h' ((l, listOf vs.toArray n) :: (hl, listOf #[.int i iu] 0) :: news) → (∀ q ∈ (hl, listOf #[.int i iu] 0) :: news, q.1 < l) → Q (.ref l) { s with heap := h', toks := tk' }) :
   wpAny (model prog w) (ktrTop dp un gd cn cs L a ccd cl outer) (call (.ref 148) [.str x t, .ref hl]) Q E s := by
  w_top off
  have NS : News h₀ L s.heap [(hl, listOf #[.int i iu] 0)] := fun q hq => N q (by simp at hq; simp [hq])
  have NH : News h₀ L s.heap news := fun q hq => N q (.tail _ hq)
  have ko : ∀ p ∈ news, ∀ q ∈ [(hl, listOf #[.int i iu] 0)], p.1 ≠ q.1 := fun p hp q hq => by simp at hq; subst hq; exact off.mem p hp
  refine wpAny_call ?_
  k_dflt (refine' enterCS  ?k1 ?k2 ?k3 ?k4 ?kh ?ko ?k5 ?kA ?kF ?kK ?k6 ?k7 ?k8 ?k9 ?kB ?kD ?_ ?c2 ?c3 ?c4; (case kA => exact rfl); (case kF => exact rfl); (case kK => assumption); (case k1 => k_asm); (case k2 => k_asm); (case k3 => k_asm); (case k4 => ((rename News _ _ _ (_ :: _) => nS); exact nS)); (case kh => k_asm); (case ko => assumption); (case k5 => k_asm); (case k6 => k_is); (case k7 => k_is); (case k8 => ktr_room); (case k9 => exact BindsTo.of_eq rfl); (case kB => exact rfl); (case kD => decide +kernel); (case c2 => exact rfl); (case c3 => exact rfl); (case c4 => exact rfl); k_whole; intro g' L' h' tk' cells' FG' F' N' Y' B' X' T' l1 hG' hL'; (try k_lt l1); k_cells Y'; (try simp only [List.cons_append, List.nil_append, List.append_nil] at N'); (try dsimp only); (try k_lift B'); (try k_fold))
  clear B F X N T NS NH ko
  k_steps
  refine Stop.intro ?_
  k_dflt (refine comp_text (fun c => ⟨(spell i.toNat c).toArray⟩) (F₀ := by k_asm) (by with_unfolding_all rfl) (by decide) (by rfl) (by decide) (by rfl) ?_)
  k_steps
  rename Fr _ _ _ _ => fF
  rename News _ _ _ _ => fN
  (show LeaveK _ _ _ _ _ _ _)
  refine leaveK_ fF fN (fun kF kN kH => ?_)
  exact ret _ _ _ _ _ (.cons _ _ (.cons _ _ .nil)) kF (news_pick (want := [_, _]) kN kH ⟨.head _, by k_mem, trivial⟩) (List.forall_mem_cons.mpr ⟨by (show @LT.lt Nat _ _ _); omega, lt_news (by assumption) (by omega)⟩)
theorem c_layers2 {hl : Addr} {i : Int} {iu : Tok} {j : Int} {ju : Tok} (B : Below A₀ base outer h₀) (F : Fr h₀ L s.heap m) (X : (pre.heap_1_39 w.params).In h₀) (N : News h₀ L s.heap ((hl, listOf #[.int i iu, .int j ju] 0) :: news)) (T : Top p loose mean mg mb h₀) (hk : cs.kind = .function)
   (hd : dp + 3 < recursionLimit) (hu : un + 22 < cLine) (x : Str) (t : Tok) (i0 : 0 ≤ i) (i5 : i < 5) (j0 : 0 ≤ j) (j5 : j < 5) (off : Off hl news) (hx : x.length ≤ 10)
   (ret : ∀ (l : Addr) vs n h' tk', StrsAre vs (layersS x [i, j]) → Fr h₀ L h' m → News h₀ L h' ((l, listOf vs.toArray n) :: (hl, listOf #[.int i iu, .int j ju] 0) :: news) → (∀ q ∈ (hl, listOf #[.int i iu, .int j ju] 0) :: news, q.1 < l) → Q (.ref l) { s with heap := h', toks := tk' }) :
   wpAny (model prog w) (ktrTop dp un gd cn cs L a ccd cl outer) (call (.ref 148) [.str x t, .ref hl]) Q E s := by
  w_top off
  have NS : News h₀ L s.heap [(hl, listOf #[.int i iu, .int j ju] 0)] := fun q hq => N q (by simp at hq; simp [hq])
  have NH : News h₀ L s.heap news := fun q hq => N q (.tail _ hq)
  have ko : ∀ p ∈ news, ∀ q ∈ [(hl, listOf #[.int i iu, .int j ju] 0)], p.1 ≠ q.1 := fun p hp q hq => by simp at hq; subst hq; exact off.mem p hp
  refine wpAny_call ?_
  k_dflt (refine' enterCS  ?k1 ?k2 ?k3 ?k4 ?kh ?ko ?k5 ?kA ?kF ?kK ?k6 ?k7 ?k8 ?k9 ?kB ?kD ?_ ?c2 ?c3 ?c4; (case kA => exact rfl); (case kF => exact rfl); (case kK => assumption); (case k1 => k_asm); (case k2 => k_asm); (case k3 => k_asm); (case k4 => ((rename News _ _ _ (_ :: _) => nS); exact nS)); (case kh => k_asm); (case ko => assumption); (case k5 => k_asm); (case k6 => k_is); (case k7 => k_is); (case k8 => ktr_room); (case k9 => exact BindsTo.of_eq rfl); (case kB => exact rfl); (case kD => decide +kernel); (case c2 => exact rfl); (case c3 => exact rfl); (case c4 => exact rfl); k_whole; intro g' L' h' tk' cells' FG' F' N' Y' B' X' T' l1 hG' hL'; (try k_lt l1); k_cells Y'; (try simp only [List.cons_append, List.nil_append, List.append_nil] at N'); (try dsimp only); (try k_lift B'); (try k_fold))
  clear B F X N T NS NH ko
  k_steps
  refine Stop.intro ?_
  k_dflt (refine comp_text (fun c => ⟨(spell i.toNat c).toArray⟩) (F₀ := by k_asm) (by with_unfolding_all rfl) (by decide) (by rfl) (by decide) (by rfl) ?_)
  k_steps
  refine Stop.intro ?_
  k_dflt (refine comp_text (fun c => ⟨(spell j.toNat c).toArray⟩) (F₀ := by k_asm) (by with_unfolding_all rfl) (by decide) (by rfl) (by decide) (by rfl) ?_)
  k_steps
  rename Fr _ _ _ _ => fF
  rename News _ _ _ _ => fN
  (show LeaveK _ _ _ _ _ _ _)
  refine leaveK_ fF fN (fun kF kN kH => ?_)
  exact ret _ _ _ _ _ (.cons _ _ (.cons _ _ (.cons _ _ .nil))) kF (news_pick (want := [_, _]) kN kH ⟨.head _, by k_mem, trivial⟩) (List.forall_mem_cons.mpr ⟨by (show @LT.lt Nat _ _ _); omega, lt_news (by assumption) (by omega)⟩)
theorem c_layers {hl : Addr} {vs : List Value} {hs : List Int} (B : Below A₀ base outer h₀) (F : Fr h₀ L s.heap m) (X : (pre.heap_1_39 w.params).In h₀) (N : News h₀ L s.heap ((hl, listOf vs.toArray 0) :: news)) (T : Top p loose mean mg mb h₀) (hk : cs.kind = .function)
   (hd : dp + 3 < recursionLimit) (hu : un + 22 < cLine) (x : Str) (t : Tok) (hI : IntsAre vs hs) (h5 : ∀ i ∈ hs, 0 ≤ i ∧ i < 5) (h2 : hs.length ≤ 2) (off : Off hl news) (hx : x.length ≤ 10)
   (ret : ∀ (l : Addr) ys n h' tk', StrsAre ys (layersS x hs) → Fr h₀ L h' m → News h₀ L h' ((l, listOf ys.toArray n) :: (hl, listOf vs.toArray 0) :: news) → (∀ q ∈ (hl, listOf vs.toArray 0) :: news, q.1 < l) → Q (.ref l) { s with heap := h', toks := tk' }) :
   wpAny (model prog w) (ktrTop dp un gd cn cs L a ccd cl outer) (call (.ref 148) [.str x t, .ref hl]) Q E s := by
  w_top off
  cases hI with
  | nil => exact c_layers0 B F X N T hk hd hu x t off hx ret
  | cons i u hI =>
    have hi := h5 i (.head _)
    cases hI with
    | nil => exact c_layers1 B F X N T hk hd hu x t hi.1 hi.2 off hx ret
    | cons j v hI =>
      have hj := h5 j (.tail _ (.head _))
      cases hI with
      | nil => exact c_layers2 B F X N T hk hd hu x t hi.1 hi.2 hj.1 hj.2 off hx ret
      | cons k v hI => exact absurd h2 (by simp [List.length_cons])
end
end
section
open PySem PySem.W PyProof.Rows
section
variable {prog p : Program} {w : World} {loose : List Str} {mean : ExcName → Option Value} {mg mb : Str → Option Value} {dp un : Nat} {gd : Option (List Code)} {cn : Str} {cs : Scope} {a : Addr} {ccd : Value} {cl : List (Str × Addr)} {outer : List Env} {A₀ : Around} {base h₀ : Heap} {L : Addr} {m : Str → Option Value} {s : Shared} {Q E : Value → Shared → Prop} {news : List (Addr × Obj)}
local macro_rules | `(tactic| walk_at "execs cons") => `(tactic| (k_here; (with_reducible refine' gentokS ?hp ?_); (case hp => omega); intro tk htk))
local macro_rules | `(tactic| walk_at "execs nil") => `(tactic| (k_here; (with_reducible refine' gentokS ?hp ?_); (case hp => omega); intro tk htk))
local macro_rules | `(tactic| walk_at "call builtin:str.replace") => `(tactic| (k_here; k_dflt (refine' replace_fm ?k1 ?k2 ?k3 ?k4 ?k5 ?k6 ?k7 ?_; (case k1 | k2 | k3 => ((show @Ne Nat _ _); omega)); (case k4 | k5 => decide +kernel); (case k6 => omega); (case k7 => decide +kernel)); intro hl9 t9 k9 hk9; (try dsimp only at hk9)))
local macro_rules | `(tactic| walk_at "eval ListComp") => `(tactic| (k_here; refine Stop.out ?_))
local macro_rules | `(tactic| walk_at "TextSrc") => `(tactic| (refine ⟨_, _, _, rfl, rfl, by k_asm, by k_asm, by first | (rw [PySem.sizeLine_eq]; (show Str.length _ ≤ _); omega), fun c9 t9 I9 oI9 C9 oC9 D9 m9 ys9 h9 tk9 E9 hc9 hC9 hx9 F9 N9 off9 => ?_, fun D9 ys9 h9 tk9 hy9 F9 N9 O9 => ?_⟩ <;> (try simp only [Off, LCg.Off3, and_true] at *)))
theorem sl_occ (c : Nat) : (Builtin.Str.occurrences (Str.ofString " \n\t\r\"\\") ⟨#[c]⟩ 0 (Str.ofString " \n\t\r\"\\").length 1).isEmpty = !([32, 10, 9, 13, 34, 92].contains c) := by
  have h := StrLaws.found_one (Str.ofString " \n\t\r\"\\") c
  rw [show (Str.ofString " \n\t\r\"\\").cps.toList = [32, 10, 9, 13, 34, 92] from by decide +kernel] at h
  rw [Bool.not_eq_eq_eq_not.mp h]
  congr 1
  rw [Bool.eq_iff_iff, decide_eq_true_eq, List.contains_iff_mem]
theorem sl1 {k : Int} {c : Nat} (h : k = 2) : Str.ofString "\\" ++ ⟨#[c]⟩ = ⟨(slashed (decide (k = 2)) c).toArray⟩ := by
  rw [show Str.ofString "\\" = ⟨#[92]⟩ from by decide +kernel, decide_eq_true h]; rfl
theorem sl2 {k : Int} {c : Nat} (h : k ≠ 2) (o : (Builtin.Str.occurrences (Str.ofString " \n\t\r\"\\") ⟨#[c]⟩ 0 (Str.ofString " \n\t\r\"\\").length 1).isEmpty = true) : ⟨#[c]⟩ = (⟨(slashed (decide (k = 2)) c).toArray⟩ : Str) := by
  rw [sl_occ] at o
  have o' : [32, 10, 9, 13, 34, 92].contains c = false := by
    cases hq : ([32, 10, 9, 13, 34, 92] : List Nat).contains c with
    | false => rfl
    | true => rw [hq] at o; cases o
  unfold slashed
  rw [decide_eq_false h, o']; rfl
theorem sl3 {k : Int} {c : Nat} (h : k ≠ 2) (o : (Builtin.Str.occurrences (Str.ofString " \n\t\r\"\\") ⟨#[c]⟩ 0 (Str.ofString " \n\t\r\"\\").length 1).isEmpty = false) : Str.ofString "\\" ++ ⟨#[c]⟩ = (⟨(slashed (decide (k = 2)) c).toArray⟩ : Str) := by
  rw [sl_occ] at o
  have o' : [32, 10, 9, 13, 34, 92].contains c = true := by
    cases hq : ([32, 10, 9, 13, 34, 92] : List Nat).contains c with
    | true => rfl
    | false => rw [hq] at o; cases o
  unfold slashed
  rw [decide_eq_false h, o', show Str.ofString "\\" = ⟨#[92]⟩ from by decide +kernel]; rfl
theorem sl_len (e : Bool) (c : Nat) : (slashed e c).length ≤ 2 := by unfold slashed; split <;> exact Nat.le_of_ble_eq_true rfl
theorem blank_item (d : Int) : Txt.item (Str.ofString " \n\t\r") ((d.fdiv 9).fmod 4) = ⟨#[blankOf d]⟩ := by
  unfold blankOf
  have h0 := fmod_lo (d.fdiv 9) (n := 4) (by decide)
  have h4 := fmod_hi (d.fdiv 9) (n := 4) (by decide)
  revert h0 h4
  generalize (d.fdiv 9).fmod 4 = k
  intro h0 h4
  rw [show Str.ofString " \n\t\r" = ⟨#[32, 10, 9, 13]⟩ from by decide +kernel]
  have h' : k = 0 ∨ k = 1 ∨ k = 2 ∨ k = 3 := by omega
  rcases h' with rfl | rfl | rfl | rfl <;> rfl
theorem quoted_eq (x : Str) : fm (fun a => (([a].flatMap (one ((Str.ofString "\\").cps.getD 0 0) (Str.ofString "\\\\").cps.toList))).flatMap (one ((Str.ofString "\"").cps.getD 0 0) (Str.ofString "\\\"").cps.toList)) x = fm quoted x := by
  refine fm_congr x fun a => ?_
  rw [show (Str.ofString "\\").cps.getD 0 0 = 92 from by decide +kernel, show (Str.ofString "\"").cps.getD 0 0 = 34 from by decide +kernel, show (Str.ofString "\\\\").cps.toList = [92, 92] from by decide +kernel, show (Str.ofString "\\\"").cps.toList = [92, 34] from by decide +kernel]
  unfold quoted one
  by_cases h1 : a = 92
  · subst h1; decide
  · by_cases h2 : a = 34
    · subst h2; decide
    · simp [h1, h2]
local macro_rules | `(tactic| walk_at "TextEl") => `(tactic| first
  | exact ⟨_, _, _, congrArg (fun z => Value.str z _) (sl1 (by assumption)), rfl, by k_asm, by k_asm⟩
  | exact ⟨_, _, _, congrArg (fun z => Value.str z _) (sl2 (by assumption) (by assumption)), rfl, by k_asm, by k_asm⟩
  | exact ⟨_, _, _, congrArg (fun z => Value.str z _) (sl3 (by assumption) (by assumption)), rfl, by k_asm, by k_asm⟩)
local macro_rules | `(tactic| walk_at "call builtin:str.join") => `(tactic| (k_here; k_dflt (refine' join_text (b := 2) ?N ?hy ?hb ?hx ?_; (case N => k_asm); (case hy => assumption); (case hb => exact fun c => sl_len _ c); (case hx => omega)); intro hl9 t9 k9))
theorem c_dressed (B : Below A₀ base outer h₀) (F : Fr h₀ L s.heap m) (X : (pre.heap_1_39 w.params).In h₀) (N : News h₀ L s.heap news) (T : Top p loose mean mg mb h₀) (hk : cs.kind = .function)
   (hd : dp + 3 < recursionLimit) (hu : un + 22 < cLine) (x : Str) (t : Tok) (d : Int) (t2 : Tok) (hx : x.length ≤ 1000)
   (ret : ∀ t' h' tk', Fr h₀ L h' m → News h₀ L h' news → Q (.str (dressS x d) t') { s with heap := h', toks := tk' }) :
   wpAny (model prog w) (ktrTop dp un gd cn cs L a ccd cl outer) (call (.ref 153) [.str x t, .int d t2]) Q E s := by
  w_top off
  have hx0 : (fm (fun a => [a]) x).length ≤ 1000 := by rw [fm_id]; exact hx
  rw [show Value.str x t = Value.str (fm (fun a => [a]) x) t by rw [fm_id]]
  refine wpAny_call ?_
  k_dflt (refine' enterCS (shown := []) ?k1 ?k2 ?k3 ?k4 ?kh ?ko ?k5 ?kA ?kF ?kK ?k6 ?k7 ?k8 ?k9 ?kB ?kD ?_ ?c2 ?c3 ?c4; (case kA => exact rfl); (case kF => exact rfl); (case kK => assumption); (case k1 => k_asm); (case k2 => k_asm); (case k3 => k_asm); (case k4 => exact News.nil); (case kh => k_asm); (case ko => exact fun _ _ _ h => nomatch h); (case k5 => k_asm); (case k6 => k_is); (case k7 => k_is); (case k8 => ktr_room); (case k9 => exact BindsTo.of_eq rfl); (case kB => exact rfl); (case kD => decide +kernel); (case c2 => exact rfl); (case c3 => exact rfl); (case c4 => exact rfl); k_whole; intro g' L' h' tk' cells' FG' F' N' Y' B' X' T' l1 hG' hL'; clear l1; k_cells Y'; (try simp only [List.cons_append, List.nil_append, List.append_nil] at N'); (try dsimp only); (try k_lift B'); (try k_fold); refine hideW ?_; intro _ _ _ _)
  clear B F X N T
  k_steps
  rotate_left
  refine Stop.intro ?_
  k_dflt (refine comp_text (fun c => ⟨(slashed (decide ((d.fdiv 3).fmod 3 = 2)) c).toArray⟩) (F₀ := by k_asm) (by with_unfolding_all rfl) (by decide) (by rfl) (by decide) (by rfl) ?_)
  k_steps
  · rename Fr _ _ _ _ => fF
    rename News _ _ _ _ => fN
    rename _ ≠ (1 : Int) => hk1
    (show LeaveK _ _ _ _ _ _ _)
    refine leaveK_ fF fN (fun kF kN kH => ?_)
    (show Q (Value.str _ _) _)
    rw [blank_item, fm_id, show fm (slashed (decide ((d.fdiv 3).fmod 3 = 2))) x ++ ⟨#[blankOf d]⟩ = dressS x d from (if_neg hk1).symm]
    exact ret _ _ _ kF kH
  · rename Fr _ _ _ _ => fF
    rename News _ _ _ _ => fN
    rename _ = (1 : Int) => hk1
    (show LeaveK _ _ _ _ _ _ _)
    refine leaveK_ fF fN (fun kF kN kH => ?_)
    (show Q (Value.str _ _) _)
    rw [blank_item, quoted_eq, show Str.ofString "\"" ++ fm quoted x ++ Str.ofString "\"" ++ ⟨#[blankOf d]⟩ = dressS x d from by rw [show Str.ofString "\"" = ⟨#[34]⟩ from by decide +kernel]; exact (if_pos hk1).symm]
    exact ret _ _ _ kF kH
end
end
section
open PySem PySem.W PyProof.Rows
section
variable {prog p : Program} {w : World} {loose : List Str} {mean : ExcName → Option Value} {mg mb : Str → Option Value} {dp un : Nat} {gd : Option (List Code)} {cn : Str} {cs : Scope} {a : Addr} {ccd : Value} {cl : List (Str × Addr)} {outer : List Env} {A₀ : Around} {base h₀ : Heap} {L : Addr} {m : Str → Option Value} {s : Shared} {Q E : Value → Shared → Prop} {news : List (Addr × Obj)}
local macro_rules | `(tactic| k_all) => `(tactic| assumption)
local macro_rules | `(tactic| walk_at "compareOp NotEq ref ref") => `(tactic| (k_here; k_dflt (refine' ne_strsK (ys := []) ?a ?b ?c ?d ?e ?f ?u ?_; (case a => exact News.isList (by k_asm) (by k_mem)); (case b => first | exact .nil | exact .cons _ _ (by assumption)); (case c => exact News.isList (by k_asm) (by k_mem)); (case d => exact .nil); (case e => assumption); (case f => exact fun _ h => nomatch h); (case u => ktr_units)); (try simp only [reduceCtorEq, decide_false, decide_true, Bool.not_false, Bool.not_true])))
local macro_rules | `(tactic| walk_at "call builtin:list.pop") => `(tactic| (k_here; k_dflt (refine' pop_first ?F ?N ?U ?z ?_; (case F | N => k_asm); (case U => k_upd); (case z => (rw [PySem.sizeLine_eq]; omega))); intro h9 F9 N9))
local macro_rules | `(tactic| k_room) => `(tactic| ktr_room)
local macro_rules | `(tactic| walk_at "call type:list") => `(tactic| (k_here; (with_reducible show wpAny _ _ (call (Value.type _) [Value.str _ _]) _ _ _); k_dflt (refine' list_text ?hh ?F ?N ?z ?_; (case hh => exact rfl); (case F | N => k_asm); (case z => (rw [PySem.sizeLine_eq]; omega)); intro D9 ys9 c9 h9 tk9 hy9 F9 N9 l9; (try k_lt l9))))
theorem c_lexer (B : Below A₀ base outer h₀) (F : Fr h₀ L s.heap m) (X : (pre.heap_1_39 w.params).In h₀) (N : News h₀ L s.heap ((117, tabObj #[]) :: news)) (T : Top p loose mean mg mb h₀) (hk : cs.kind = .function)
   (hd : dp + 3 < recursionLimit) (hu : un + 120 < cLine) (x : Str) (t : Tok) (hx : x.length ≤ 10000) (off : Off 117 news) (C : CodeHd base 121 117)
   (ret : ∀ (P : LexP) lt pn sgs sn ps h' tk', LexOk prog w P → StrsAre sgs (x.cps.toList.map fun k => (⟨#[k]⟩ : Str)) → Fr h₀ L h' m → News h₀ L h' (lexNews w P 1 lt #[] pn sgs.toArray sn ((117, tabObj ps) :: news)) → (∀ q ∈ news, q.1 < P.cell) → @LT.lt Nat _ 117 P.cell → Q (.ref P.lx) { s with heap := h', toks := tk' }) :
   wpAny (model prog w) (ktrTop dp un gd cn cs L a ccd cl outer) (call (.ref 122) [.str x t]) Q E s := by
  w_top off
  have NS : News h₀ L s.heap [(117, tabObj #[])] := fun q hq => N q (by simp at hq; simp [hq])
  have NH : News h₀ L s.heap news := fun q hq => N q (.tail _ hq)
  have ko : ∀ p ∈ news, ∀ q ∈ [((117 : Addr), tabObj #[])], p.1 ≠ q.1 := fun p hp q hq => by simp at hq; subst hq; exact off.mem p hp
  refine wpAny_call ?_
  k_dflt (refine' enterCS  ?k1 ?k2 ?k3 ?k4 ?kh ?ko ?k5 ?kA ?kF ?kK ?k6 ?k7 ?k8 ?k9 ?kB ?kD ?_ ?c2 ?c3 ?c4; (case kA => exact rfl); (case kF => exact rfl); (case kK => assumption); (case k1 => k_asm); (case k2 => k_asm); (case k3 => k_asm); (case k4 => ((rename News _ _ _ (_ :: _) => nS); exact nS)); (case kh => k_asm); (case ko => assumption); (case k5 => k_asm); (case k6 => k_is); (case k7 => k_is); (case k8 => ktr_room); (case k9 => exact BindsTo.of_eq rfl); (case kB => exact rfl); (case kD => decide +kernel); (case c2 => exact rfl); (case c3 => exact rfl); (case c4 => exact rfl); k_whole; intro g' L' h' tk' cells' FG' F' N' Y' B' X' T' l1 hG' hL'; (try k_lt l1); k_cells Y'; (try simp only [List.cons_append, List.nil_append, List.append_nil] at N'); (try dsimp only); (try k_lift B'); (try k_fold); refine hideW ?_; intro _ _ _ _)
  clear B F X N T NS NH ko
  repeat' (first | (with_reducible refine unh (by assumption) ?_; try dsimp only) | (k_unfold; (try dsimp only)) | (k_end; wrow_close) | (dsimp only; walk1) | walk1 | (leave1; walk_say "STEP leave1"; try dsimp only) | fail "no step")
  rename Fr _ _ _ _ => fF
  rename News _ _ _ _ => fN
  refine leaveK_ fF fN (fun kF kN kH => ?_)
  refine ret ⟨_, _, _, _, _, _, _, _, _, _, _, _, _, _, _, _, _, _, _, _, _, _, _, _, _⟩ _ _ _ _ _ _ _ ?ok ?sg kF (news_pick (want := lexNews w ⟨_, _, _, _, _, _, _, _, _, _, _, _, _, _, _, _, _, _, _, _, _, _, _, _, _⟩ 1 _ _ _ _ _ [(117, _)]) kN kH ⟨(.head _), (.tail _ (.head _)), (.tail _ (.tail _ (.head _))), (.tail _ (.tail _ (.tail _ (.head _)))), (.tail _ (.tail _ (.tail _ (.tail _ (.head _))))), (.tail _ (.tail _ (.tail _ (.tail _ (.tail _ (.tail _ (.head _))))))), (.tail _ (.tail _ (.tail _ (.tail _ (.tail _ (.tail _ (.tail _ (.head _)))))))), (.tail _ (.tail _ (.tail _ (.tail _ (.tail _ (.tail _ (.tail _ (.tail _ (.head _))))))))), (.tail _ (.tail _ (.tail _ (.tail _ (.tail _ (.tail _ (.tail _ (.tail _ (.tail _ (.head _)))))))))), (.tail _ (.tail _ (.tail _ (.tail _ (.tail _ (.tail _ (.tail _ (.tail _ (.tail _ (.tail _ (.head _))))))))))), trivial⟩) ?lt ?lt2
  case sg => assumption
  case lt => exact lt_news (by assumption) (Nat.lt_succ_self _)
  case lt2 => dsimp only; (show @LT.lt Nat _ _ _); omega
  refine ⟨?_, ⟨_, rfl⟩, by dsimp only; omega, by dsimp only; omega, by dsimp only; omega, by dsimp only; omega, by dsimp only; omega, by dsimp only; omega, by dsimp only; omega, by dsimp only; omega⟩
  unfold ReadC
  dsimp only
  intro p9 loose9 mean9 mg9 mb9 dp9 un9 gd9 cn9 cs9 a9 ccd9 cl9 outer9 A9 base9 h9 L9 m9 s9 Q9 E9 news9 sgs9 sn9 xs9 t9 B9 F9 X9 N9 T9 hk9 hd9 hu9 hy9 hx9 hc9 off9 ret9
  clear ret fN fF kF kN kH hk hd hu
  refine wpAny_call ?_
  k_dflt (refine' kla_code ?k1 ?k2 ?k3 ?k4 ?k5 ?kA ?kF ?kK ?k6 ?k7 ?k8 ?k9 ?kB ?_ ?c2 ?c3 ?c4 ?c5; (case kA => exact rfl); (case kF => exact rfl); (case kK => assumption); (case k1 => exact B9); (case k2 => exact F9); (case k3 => exact X9); (case k4 => exact N9); (case k5 => exact T9); (case k6 => exact .tail _ (.head _)); (case k7 => exact codeRec_news N9 (.tail _ (.tail _ (.head _))) (by assumption) (by assumption)); (case k8 => ktr_room); (case k9 => exact rfl); (case c5 => decide); (case kB => exact locs rfl); (case c2 => exact rfl); (case c3 => exact rfl); (case c4 => exact rfl); intro g' L' h' FG' F' N' B' X' T'; (try dsimp only); (try k_lift B'); (try k_fold))
  clear B9 F9 X9 N9 T9
  cases xs9 with
  | nil =>
    rw [List.map_nil] at hy9
    cases hy9
    have hok : ∀ x ∈ ([] : List Str), PyData.strOk x = true := fun _ h => nomatch h
    repeat' (first | (with_reducible refine unh (by assumption) ?_; try dsimp only) | (k_unfold; (try dsimp only)) | (k_end; wrow_close) | (dsimp only; walk1) | walk1 | (leave1; walk_say "STEP leave1"; try dsimp only) | fail "no step")
    rename Fr _ _ _ _ => fF
    rename News _ _ _ _ => fN
    refine leaveK_ fF fN (fun kF kN => ?_)
    (show Q9 (Value.str (Str.ofString "") _) _)
    rw [show Str.ofString "" = ⟨#[]⟩ from by decide +kernel]
    exact ret9 _ [] _ _ _ .nil kF (fun q hq => kN q (.tail _ hq))
  | cons c9 r9 =>
    have hok : ∀ x ∈ (c9 :: r9).map (fun k => (⟨#[k]⟩ : Str)), PyData.strOk x = true := fun x hx => by
      obtain ⟨k, hk, rfl⟩ := List.mem_map.mp hx
      simpa [PyData.strOk] using hc9 k hk
    have hlen := strs_length hy9
    rw [List.length_map] at hlen
    rw [List.map_cons] at hy9 hok
    cases hy9
    repeat' (first | (with_reducible refine unh (by assumption) ?_; try dsimp only) | (k_unfold; (try dsimp only)) | (k_end; wrow_close) | (dsimp only; walk1) | walk1 | (leave1; walk_say "STEP leave1"; try dsimp only) | fail "no step")
    rename Fr _ _ _ _ => fF
    rename News _ _ _ _ => fN
    refine leaveK_ fF fN (fun kF kN => ?_)
    exact ret9 _ _ _ _ _ (by assumption) kF (fun q hq => kN q (.tail _ hq))
end
end
section
open PySem PySem.W PyProof.Rows
section
variable {prog p : Program} {w : World} {loose : List Str} {mean : ExcName → Option Value} {mg mb : Str → Option Value} {dp un : Nat} {gd : Option (List Code)} {cn : Str} {cs : Scope} {a : Addr} {ccd : Value} {cl : List (Str × Addr)} {outer : List Env} {A₀ : Around} {base h₀ : Heap} {L : Addr} {m : Str → Option Value} {s : Shared} {Q E : Value → Shared → Prop} {news : List (Addr × Obj)}
local macro_rules | `(tactic| k_room) => `(tactic| ktr_room)
local macro_rules | `(tactic| walk_at "callWith ref") => `(tactic| (k_here; (with_reducible show wpAny _ _ (callWith _ _ _ _ _) _ _ _); k_dflt (refine' callWith_F ?k1 ?_; (case k1 => exact lexFn (by assumption) (by k_asm) (by k_mem)))))
local macro_rules | `(tactic| walk_at "FnAt") => `(tactic| exact lexFn (by assumption) (by k_asm) (by k_mem))
local macro_rules | `(tactic| walk_at "And") => `(tactic| ((with_reducible show FnAt _ _ ∧ _); refine ⟨by exact lexFn (by assumption) (by k_asm) (by k_mem), ?_⟩; try dsimp only [List.nil_append, List.cons_append]))
local macro_rules | `(tactic| walk_at "call ref") => `(tactic| (k_here; (with_reducible show wpAny _ _ (call (Value.ref (LexP.f _)) _) _ _ _); k_dflt (refine' LexOk.read (by assumption) (news := [(LexP.pb _, _), (LexP.lx _, _), (LexP.ldx _, _), (LexP.st _, _), (LexP.sdx _, _)]) ?kB ?kF ?kX ?kN ?kT ?kK ?kd ?ku ?hy ?hl ?hc ?ho ?_; (case kB | kF | kX => first | k_asm | exact rfl); (case kN => exact news_sub (by k_asm) ⟨by k_mem, by k_mem, by k_mem, by k_mem, by k_mem, by k_mem, by k_mem, by k_mem, by k_mem, trivial⟩); (case kT | kK => first | k_asm | exact rfl); (case kd | ku => first | ktr_room | ktr_units); (case hy | hl | hc => assumption); (case ho => k_all)); intro t9 sgs9 sn9 h9 tk9 hy9 F9 N9; (try k_fold)))
theorem c_rcC {P : LexP} {ln : Int} {lt : Tok} {pbs : List Value} {pn : Nat} {sgs : List Value} {sn : Nat} {xs : List Nat} (B : Below A₀ base outer h₀) (F : Fr h₀ L s.heap m) (X : (pre.heap_1_39 w.params).In h₀) (N : News h₀ L s.heap (lexNews w P ln lt pbs.toArray pn sgs.toArray sn news)) (T : Top p loose mean mg mb h₀) (hk : cs.kind = .function)
   (hd : dp + 3 < recursionLimit) (hu : un + 120 < cLine) (ok : LexOk prog w P) (ap : Apart P news) (hy : StrsAre sgs (xs.map fun k => (⟨#[k]⟩ : Str))) (hl : xs.length ≤ 10000) (hc : ∀ c ∈ xs, c < 1114112)
   (ret : ∀ t' ln' lt' sgs' sn' h' tk', ln' = ln + nl1 (xs.take 1) → StrsAre sgs' ((xs.drop 1).map fun k => (⟨#[k]⟩ : Str)) → Fr h₀ L h' m → News h₀ L h' (lexNews w P ln' lt' pbs.toArray pn sgs'.toArray sn' news) → Q (.str ⟨(xs.take 1).toArray⟩ t') { s with heap := h', toks := tk' }) :
   codeAny (model prog w) (ktrTop dp un gd cn cs L a ccd cl outer) (.call (.ref 35) ⟨[.ref P.lx], []⟩) (fun r s' => match r with | .ok (.ret v) => Q v s' | .ok _ => False | .error e => E e s') s := by
  w_top off
  have NS := (lex_split N).1
  have NH := (lex_split N).2
  have ko := apart_off (ln := ln) (lt := lt) (pbs := pbs.toArray) (pn := pn) (sgs := sgs.toArray) (sn := sn) ap ok
  have o1 := ok.o1; have o2 := ok.o2; have o3 := ok.o3; have o4 := ok.o4; have o5 := ok.o5; have o6 := ok.o6; have o7 := ok.o7; have o8 := ok.o8
  k_dflt (refine' enterS  ?k1 ?k2 ?k3 ?k4 ?kh ?ko ?k5 ?kA ?kF ?kK ?k6 ?k7 ?k8 ?k9 ?kB ?_ ?c2 ?c3 ?c4 ?c5; (case kA => exact rfl); (case kF => exact rfl); (case kK => assumption); (case k1 => k_asm); (case k2 => k_asm); (case k3 => k_asm); (case k4 => ((rename News _ _ _ (_ :: _) => nS); exact nS)); (case kh => k_asm); (case ko => assumption); (case k5 => k_asm); (case k6 => k_is); (case k7 => k_is); (case k8 => ktr_room); (case k9 => exact BindsTo.of_eq rfl); (case c5 => decide); (case kB => exact locs rfl); (case c2 => exact rfl); (case c3 => exact rfl); (case c4 => exact rfl); k_whole; intro g' L' h' FG' F' N' B' X' T' l1 hG' hL'; (try k_lt l1); (try dsimp only); (try k_lift B'); (try k_fold); refine hideW ?_; intro _ _ _ _)
  clear B F X N T NS NH ko
  k_steps
  · rename Fr _ _ _ _ => fF
    rename News _ _ _ _ => fN
    rename ((_ : Str) == _) = true => hn
    (show LeaveK _ _ _ _ _ _ _)
    refine leaveK_ fF fN (fun kF kN kH => ?_)
    rw [nl_eq, decide_eq_true_eq] at hn
    exact ret _ _ _ _ _ _ _ (by rw [nl1, if_pos hn]) (by assumption) kF (lex_join kN kH ⟨by k_mem, by k_mem, by k_mem, by k_mem, by k_mem, by k_mem, by k_mem, by k_mem, by k_mem, trivial⟩)
  · rename Fr _ _ _ _ => fF
    rename News _ _ _ _ => fN
    rename ((_ : Str) == _) = false => hn
    (show LeaveK _ _ _ _ _ _ _)
    refine leaveK_ fF fN (fun kF kN kH => ?_)
    rw [nl_eq, decide_eq_false_iff_not] at hn
    exact ret _ _ _ _ _ _ _ (by rw [nl1, if_neg hn, Int.add_zero]) (by assumption) kF (lex_join kN kH ⟨by k_mem, by k_mem, by k_mem, by k_mem, by k_mem, by k_mem, by k_mem, by k_mem, by k_mem, trivial⟩)
theorem c_rc {P : LexP} {ln : Int} {lt : Tok} {pbs : List Value} {pn : Nat} {sgs : List Value} {sn : Nat} {xs : List Nat} (B : Below A₀ base outer h₀) (F : Fr h₀ L s.heap m) (X : (pre.heap_1_39 w.params).In h₀) (N : News h₀ L s.heap (lexNews w P ln lt pbs.toArray pn sgs.toArray sn news)) (T : Top p loose mean mg mb h₀) (hk : cs.kind = .function)
   (hd : dp + 3 < recursionLimit) (hu : un + 120 < cLine) (ok : LexOk prog w P) (ap : Apart P news) (hy : StrsAre sgs (xs.map fun k => (⟨#[k]⟩ : Str))) (hl : xs.length ≤ 10000) (hc : ∀ c ∈ xs, c < 1114112)
   (ret : ∀ t' ln' lt' sgs' sn' h' tk', ln' = ln + nl1 (xs.take 1) → StrsAre sgs' ((xs.drop 1).map fun k => (⟨#[k]⟩ : Str)) → Fr h₀ L h' m → News h₀ L h' (lexNews w P ln' lt' pbs.toArray pn sgs'.toArray sn' news) → Q (.str ⟨(xs.take 1).toArray⟩ t') { s with heap := h', toks := tk' }) :
   wpAny (model prog w) (ktrTop dp un gd cn cs L a ccd cl outer) (call (.ref 35) [.ref P.lx]) Q E s := wpAny_call (c_rcC B F X N T hk hd hu ok ap hy hl hc ret)
end
end
section
open PySem PySem.W PyProof.Rows
section
variable {prog p : Program} {w : World} {loose : List Str} {mean : ExcName → Option Value} {mg mb : Str → Option Value} {dp un : Nat} {gd : Option (List Code)} {cn : Str} {cs : Scope} {a : Addr} {ccd : Value} {cl : List (Str × Addr)} {outer : List Env} {A₀ : Around} {base h₀ : Heap} {L : Addr} {m : Str → Option Value} {s : Shared} {Q E : Value → Shared → Prop} {news : List (Addr × Obj)}
local macro_rules | `(tactic| k_room) => `(tactic| ktr_room)
local macro_rules | `(tactic| walk_at "call builtin:list.pop") => `(tactic| (k_here; k_dflt (refine' pop_first ?F ?N ?U ?z ?_; (case F | N => k_asm); (case U => k_upd); (case z => (rw [PySem.sizeLine_eq, List.length_cons]; omega))); intro h9 F9 N9))
theorem c_gt_pb {P : LexP} {ln : Int} {lt : Tok} {pbs : List Value} {pn : Nat} {sgs : List Value} {sn : Nat} {xs : List Nat} {y : Value} (hz : pbs.length < 1000) (B : Below A₀ base outer h₀) (F : Fr h₀ L s.heap m) (X : (pre.heap_1_39 w.params).In h₀) (N : News h₀ L s.heap (lexNews w P ln lt (y :: pbs).toArray pn sgs.toArray sn news)) (T : Top p loose mean mg mb h₀) (hk : cs.kind = .function)
   (hd : dp + 5 < recursionLimit) (hu : un + 140 < cLine) (ok : LexOk prog w P) (ap : Apart P news)
   (ret : ∀ pn' h' tk', Fr h₀ L h' m → News h₀ L h' (lexNews w P ln lt pbs.toArray pn' sgs.toArray sn news) → Q y { s with heap := h', toks := tk' }) :
   wpAny (model prog w) (ktrTop dp un gd cn cs L a ccd cl outer) (call (.ref 42) [.ref P.lx]) Q E s := by
  w_top off
  have NS := (lex_split N).1
  have NH := (lex_split N).2
  have ko := apart_off (ln := ln) (lt := lt) (pbs := (y :: pbs).toArray) (pn := pn) (sgs := sgs.toArray) (sn := sn) ap ok
  have o1 := ok.o1; have o2 := ok.o2; have o3 := ok.o3; have o4 := ok.o4; have o5 := ok.o5; have o6 := ok.o6; have o7 := ok.o7; have o8 := ok.o8
  refine wpAny_call ?_
  k_dflt (refine' enterS  ?k1 ?k2 ?k3 ?k4 ?kh ?ko ?k5 ?kA ?kF ?kK ?k6 ?k7 ?k8 ?k9 ?kB ?_ ?c2 ?c3 ?c4 ?c5; (case kA => exact rfl); (case kF => exact rfl); (case kK => assumption); (case k1 => k_asm); (case k2 => k_asm); (case k3 => k_asm); (case k4 => ((rename News _ _ _ (_ :: _) => nS); exact nS)); (case kh => k_asm); (case ko => assumption); (case k5 => k_asm); (case k6 => k_is); (case k7 => k_is); (case k8 => ktr_room); (case k9 => exact BindsTo.of_eq rfl); (case c5 => decide); (case kB => exact locs rfl); (case c2 => exact rfl); (case c3 => exact rfl); (case c4 => exact rfl); k_whole; intro g' L' h' FG' F' N' B' X' T' l1 hG' hL'; (try k_lt l1); (try dsimp only); (try k_lift B'); (try k_fold); refine hideW ?_; intro _ _ _ _)
  clear B F X N T NS NH ko
  k_steps
  rename Fr _ _ _ _ => fF
  rename News _ _ _ _ => fN
  (show LeaveK _ _ _ _ _ _ _)
  refine leaveK_ fF fN (fun kF kN kH => ?_)
  exact ret _ _ _ kF (lex_join kN kH ⟨by k_mem, by k_mem, by k_mem, by k_mem, by k_mem, by k_mem, by k_mem, by k_mem, by k_mem, trivial⟩)
end
end
section
open PySem PySem.W PyProof.Rows
section
variable {prog p : Program} {w : World} {loose : List Str} {mean : ExcName → Option Value} {mg mb : Str → Option Value} {dp un : Nat} {gd : Option (List Code)} {cn : Str} {cs : Scope} {a : Addr} {ccd : Value} {cl : List (Str × Addr)} {outer : List Env} {A₀ : Around} {base h₀ : Heap} {L : Addr} {m : Str → Option Value} {s : Shared} {Q E : Value → Shared → Prop} {news : List (Addr × Obj)}
local macro_rules | `(tactic| k_room) => `(tactic| ktr_room)
theorem lex_front {w : World} {P : LexP} {ln : Int} {lt : Tok} {pbs : Array Value} {pn : Nat} {sgs : Array Value} {sn : Nat} {news : List (Addr × Obj)} {h₀ h : Heap} {L : Addr} {x y : Addr × Obj} (N : News h₀ L h (lexNews w P ln lt pbs pn sgs sn (x :: y :: news))) :
    News h₀ L h (x :: y :: lexNews w P ln lt pbs pn sgs sn news) := fun p hp => by
  have q := lex_split N
  rcases List.mem_cons.mp hp with rfl | hp
  · exact q.2 _ (.head _)
  rcases List.mem_cons.mp hp with rfl | hp
  · exact q.2 _ (.tail _ (.head _))
  rcases List.mem_append.mp (show p ∈ lexNews w P ln lt pbs pn sgs sn [] ++ news from hp) with hp | hp
  · exact q.1 _ hp
  · exact q.2 _ (.tail _ (.tail _ hp))
theorem lex_back {w : World} {P : LexP} {ln : Int} {lt : Tok} {pbs : Array Value} {pn : Nat} {sgs : Array Value} {sn : Nat} {news : List (Addr × Obj)} {h₀ h : Heap} {L : Addr} {x y : Addr × Obj} (N : News h₀ L h (x :: y :: lexNews w P ln lt pbs pn sgs sn news)) :
    News h₀ L h (lexNews w P ln lt pbs pn sgs sn (x :: y :: news)) := fun p hp => by
  rcases List.mem_append.mp (show p ∈ lexNews w P ln lt pbs pn sgs sn [] ++ (x :: y :: news) from hp) with hp | hp
  · exact N _ (.tail _ (.tail _ (List.mem_append_left news hp : p ∈ lexNews w P ln lt pbs pn sgs sn [] ++ news)))
  rcases List.mem_cons.mp hp with rfl | hp
  · exact N _ (.head _)
  rcases List.mem_cons.mp hp with rfl | hp
  · exact N _ (.tail _ (.head _))
  · exact N _ (.tail _ (.tail _ (List.mem_append_right (lexNews w P ln lt pbs pn sgs sn []) hp)))
theorem c_next {q b : Addr} {u : Tok} {Q : Option Value → Shared → Prop} {P : LexP} {ln : Int} {lt : Tok} {pbs : List Value} {pn : Nat} {sgs : List Value} {sn : Nat} {xs : List Nat} (B : Below A₀ base outer h₀) (F : Fr h₀ L s.heap m) (X : (pre.heap_1_39 w.params).In h₀) (N : News h₀ L s.heap ((q, citObj (.ref b) (.str ⟨#[]⟩ u) false) :: (b, methodObj (.ref 35) (.ref P.lx)) :: lexNews w P ln lt pbs.toArray pn sgs.toArray sn news)) (T : Top p loose mean mg mb h₀) (hk : cs.kind = .function)
   (hd : dp + 3 < recursionLimit) (hu : un + 130 < cLine) (ok : LexOk prog w P) (ap : Apart P news) (hy : StrsAre sgs (xs.map fun k => (⟨#[k]⟩ : Str))) (hl : xs.length ≤ 10000) (hc : ∀ c ∈ xs, c < 1114112) (hb : @LT.lt Nat _ P.pb b) (hq : @LT.lt Nat _ b q)
   (ret0 : ∀ ln' lt' sgs' sn' h' tk', xs = [] → ln' = ln → StrsAre sgs' [] → Fr h₀ L h' m → News h₀ L h' ((q, citObj .none .none true) :: (b, methodObj (.ref 35) (.ref P.lx)) :: lexNews w P ln' lt' pbs.toArray pn sgs'.toArray sn' news) → Q none { s with heap := h', toks := tk' })
   (ret1 : ∀ c r t' ln' lt' sgs' sn' h' tk', xs = c :: r → ln' = ln + nl1 [c] → StrsAre sgs' (r.map fun k => (⟨#[k]⟩ : Str)) → Fr h₀ L h' m → News h₀ L h' ((q, citObj (.ref b) (.str ⟨#[]⟩ u) false) :: (b, methodObj (.ref 35) (.ref P.lx)) :: lexNews w P ln' lt' pbs.toArray pn sgs'.toArray sn' news) → Q (some (.str ⟨#[c]⟩ t')) { s with heap := h', toks := tk' })
   (nq : ∀ p ∈ news, p.1 ≠ q) :
   wpAny (model prog w) (ktrTop dp un gd cn cs L a ccd cl outer) (pyNext (.ref q)) Q E s := by
  w_top off
  have o1 := ok.o1; have o2 := ok.o2; have o3 := ok.o3; have o4 := ok.o4; have o5 := ok.o5; have o6 := ok.o6; have o7 := ok.o7; have o8 := ok.o8
  have hf : ∀ {h : Heap} {m'}, Fr h₀ L h m' → FnAt 35 h := fun k => ⟨_, _, _, _, (X.keeps k.keep) 35 _ rfl⟩
  refine cit_next N (by k_mem) (by k_mem) (hf F) rfl ?_
  refine call_meth N (by k_mem) ?_
  refine c_rcC (un := un + 1) B F X (news := (q, citObj (.ref b) (.str ⟨#[]⟩ u) false) :: (b, methodObj (.ref 35) (.ref P.lx)) :: news) (lex_back N) T hk (by omega) (by omega) ok ?_ hy hl hc ?_
  · intro p hp
    rcases List.mem_cons.mp hp with rfl | hp
    · right; show @LT.lt Nat _ P.pb q; omega
    rcases List.mem_cons.mp hp with rfl | hp
    · right; exact hb
    · exact ap p hp
  · intro t' ln' lt' sgs' sn' h' tk' hln hy' F' N'
    refine ⟨m, _, F', N', by k_mem, by k_mem, hf F', ?_⟩
    refine wpAny_eqBool_str ?_
    cases xs with
    | nil =>
      refine ⟨m, (q, citObj (.ref b) (.str ⟨#[]⟩ u) false) :: (b, methodObj (.ref 35) (.ref P.lx)) :: lexNews w P ln' lt' pbs.toArray pn sgs'.toArray sn' news, (q, citObj .none .none true) :: (b, methodObj (.ref 35) (.ref P.lx)) :: lexNews w P ln' lt' pbs.toArray pn sgs'.toArray sn' news, F', lex_front N', Upd.head ?_, by k_mem, hf F', fun h' F2 N2 => ret0 _ _ _ _ _ _ rfl (by rw [hln]; simp [nl1]) hy' F2 N2⟩
      intro p hp e
      rcases List.mem_cons.mp hp with rfl | hp
      · exact absurd (show @Eq Nat b q from e) (by omega)
      rcases List.mem_append.mp (show p ∈ lexNews w P ln' lt' pbs.toArray pn sgs'.toArray sn' [] ++ news from hp) with hp | hp
      · have e' : @Eq Nat p.1 q := e
        simp only [List.mem_cons, List.not_mem_nil, or_false] at hp
        rcases hp with rfl | rfl | rfl | rfl | rfl | rfl | rfl | rfl | rfl <;> (dsimp only at e'; omega)
      · exact nq p hp e
    | cons c r =>
      exact ret1 c r _ _ _ _ _ _ _ rfl hln hy' F' (lex_front N')
end
end
section
open PySem PySem.W PyProof.Rows
section
variable {prog p : Program} {w : World} {loose : List Str} {mean : ExcName → Option Value} {mg mb : Str → Option Value} {dp un : Nat} {gd : Option (List Code)} {cn : Str} {cs : Scope} {a : Addr} {ccd : Value} {cl : List (Str × Addr)} {outer : List Env} {A₀ : Around} {base h₀ : Heap} {L : Addr} {m : Str → Option Value} {s : Shared} {Q E : Value → Shared → Prop} {news : List (Addr × Obj)}
local macro_rules | `(tactic| k_room) => `(tactic| ktr_room)
local macro_rules | `(tactic| walk_at "call builtin:iter") => `(tactic| (k_here; k_dflt (refine' iter2 ?F ?N ?b ?_; (case F | N => k_asm); (case b => k_mem)); intro q9 h9 F9 N9 l9; (try k_lt l9)))
local macro_rules | `(tactic| walk_at "exec For Name Name cons nil") => `(tactic| (k_here; (with_unfolding_all refine' wpAny_For ?_ ?hs); (case hs => (intro _; with_unfolding_all rfl))))
local macro_rules | `(tactic| walk_at "Exists") => `(tactic| (k_here; refine Stop.out ?_))
local macro_rules | `(tactic| walk_at "call ref") => `(tactic| (k_here; (with_reducible show wpAny _ _ (call (Value.ref 35) _) _ _ _); k_dflt (refine' c_rc ?kB ?kF ?kX ?kN ?kT ?kK ?kd ?ku ?kok ?kap ?ky ?kl ?kc ?_; (case kB | kF | kX => first | k_asm | exact rfl); (case kN => exact lex_back (by k_asm)); (case kT | kK => first | k_asm | exact rfl); (case kd | ku => first | ktr_room | ktr_units); (case kok | ky => assumption); (case kap => exact apart2 (by omega) (by omega)); (case kl | kc => assumption)); intro t9 ln9 lt9 sgs9 sn9 h9 tk9 e9 y9 F9 N9; replace N9 := lex_front N9; have z9 := take_len y9))
local macro_rules | `(tactic| walk_at "next") => `(tactic| (k_dflt (refine' c_next ?B ?F ?X ?N ?T ?hk ?hd ?hu ?ok ?ap ?hy ?hl ?hc ?hb ?hq ?r0 ?r1 ?nq; (case B | F | X | N | T => k_asm); (case hk => first | exact rfl | assumption); (case hd => ktr_room); (case hu => ktr_units); (case ok => assumption); (case ap => exact fun _ h => nomatch h); (case hy | hl | hc => assumption); (case hb | hq => omega); (case nq => exact fun _ h => nomatch h))))
local macro_rules | `(tactic| walk_at "exec If") => `(tactic| (k_here; (with_reducible show wpAny _ _ (exec (Stmt.If _ [Stmt.Assign _ _ _] _ _) _) _ _ _); refine Stop.out ?_))
theorem c_gt {P : LexP} {ln : Int} {lt : Tok} {pn : Nat} {sgs : List Value} {sn : Nat} {xs : List Nat} (B : Below A₀ base outer h₀) (F : Fr h₀ L s.heap m) (X : (pre.heap_1_39 w.params).In h₀) (N : News h₀ L s.heap (lexNews w P ln lt #[] pn sgs.toArray sn news)) (T : Top p loose mean mg mb h₀) (hk : cs.kind = .function)
   (hd : dp + 5 < recursionLimit) (hu : un + 140 < cLine) (ok : LexOk prog w P) (ap : Apart P news) (hy : StrsAre sgs (xs.map fun k => (⟨#[k]⟩ : Str))) (hl : xs.length ≤ 10000) (hc : ∀ c ∈ xs, c < 1114112)
   (ret : ∀ t' ln' lt' pn' sgs' sn' h' tk', ln' + nlA (tokG xs).2 = ln + nlA xs → StrsAre sgs' ((tokG xs).2.map fun k => (⟨#[k]⟩ : Str)) → Fr h₀ L h' m → News h₀ L h' (lexNews w P ln' lt' #[] pn' sgs'.toArray sn' news) → Q (.str ⟨(tokG xs).1.toArray⟩ t') { s with heap := h', toks := tk' }) :
   wpAny (model prog w) (ktrTop dp un gd cn cs L a ccd cl outer) (call (.ref 42) [.ref P.lx]) Q E s := by
  w_top off
  have NS := (lex_split N).1
  have NH := (lex_split N).2
  have ko := apart_off (ln := ln) (lt := lt) (pbs := #[]) (pn := pn) (sgs := sgs.toArray) (sn := sn) ap ok
  have o1 := ok.o1; have o2 := ok.o2; have o3 := ok.o3; have o4 := ok.o4; have o5 := ok.o5; have o6 := ok.o6; have o7 := ok.o7; have o8 := ok.o8
  refine wpAny_call ?_
  k_dflt (refine' enterS  ?k1 ?k2 ?k3 ?k4 ?kh ?ko ?k5 ?kA ?kF ?kK ?k6 ?k7 ?k8 ?k9 ?kB ?_ ?c2 ?c3 ?c4 ?c5; (case kA => exact rfl); (case kF => exact rfl); (case kK => assumption); (case k1 => k_asm); (case k2 => k_asm); (case k3 => k_asm); (case k4 => ((rename News _ _ _ (_ :: _) => nS); exact nS)); (case kh => k_asm); (case ko => assumption); (case k5 => k_asm); (case k6 => k_is); (case k7 => k_is); (case k8 => ktr_room); (case k9 => exact BindsTo.of_eq rfl); (case c5 => decide); (case kB => exact locs rfl); (case c2 => exact rfl); (case c3 => exact rfl); (case c4 => exact rfl); k_whole; intro g' L' h' FG' F' N' B' X' T' l1 hG' hL'; (try k_lt l1); (try dsimp only); (try k_lift B'); (try k_fold); refine hideW ?_; intro _ _ _ _)
  clear B F X N T NS NH ko
  k_steps
  rename Fr _ _ _ _ => fF
  rename News _ _ _ _ => fN
  refine cit_pyIter fN (by k_mem) ?_
  (show codeAny _ _ _ _ _)
  refine sameCE fF fN s (fun xs' tok' => tok' = [] ∧ tokG xs' = tokG xs) (fun xs' tok' => (tok', xs') = tokG xs) (ln + nlA xs) (fun V hV => ?_)
  refine codeAny_forLoop V ?_ xs.length ?_
  · intro n s' hz8
    obtain hI | ⟨rfl, hI⟩ := hV.to2 hz8
    · obtain ⟨xs', tok, ch, t', ln', lt', sgs', sn', h', tk', rfl, rfl, hG, hC, hl', hlt, hc', hy', gF, gN⟩ := hI
      clear hy hl hc hz8
      walk_at "next"
      · intro ln3 lt3 sgs3 sn3 h3 tk3 hx hln3 hy3 F3 N3
        obtain rfl := hx
        obtain ⟨rfl, hT⟩ := hG
        k_steps
        rename Fr _ _ _ _ => zF
        rename News _ _ _ _ => zN
        (show LeaveK _ _ _ _ _ _ _)
        refine leaveK_ zF zN (fun kF kN kH => ?_)
        have hR := ret
        rw [← hT] at hR
        exact hR _ ln3 _ _ _ _ _ _ (by (show ln3 + nlA [] = _); rw [← hC, hln3]) hy3 kF (lex_join kN kH ⟨by k_mem, by k_mem, by k_mem, by k_mem, by k_mem, by k_mem, by k_mem, by k_mem, by k_mem, trivial⟩)
      · intro c r t2 ln2 lt2 sgs2 sn2 h2 tk2 hx hln2 hy2 F2 N2
        obtain rfl := hx
        obtain ⟨rfl, hT⟩ := hG
        have hl2 : r.length ≤ 10000 := Nat.le_of_succ_le hl'
        have hc2 : ∀ c ∈ r, c < 1114112 := fun c h => hc' c (.tail _ h)
        have hcc : c < 1114112 := hc' c (.head _)
        clear hy' hc' hl' gN gF
        k_steps
        · rename (_ : Bool) = true => hqc
          rename List.isEmpty _ = true => hwc
          rw [ws_occ] at hwc
          rw [q_eq, beq_iff_eq] at hqc
          rw [tokG_q (by simpa using hwc) hqc] at hT
          rename Fr _ _ _ _ => iF
          rename News _ _ _ _ => iN
          rename StrsAre _ _ => iy
          refine cit_pyIter iN (by k_mem) ?_
          (show codeAny _ _ _ _ _)
          refine sameC iF iN s (fun xs' tok' => (tok' ++ (upto (· == 34) xs').1, (upto (· == 34) xs').2) = tokG xs) (ln + nlA xs) (fun V2 hV2 => ?_)
          refine codeAny_forLoop V2 ?_ r.length ?_
          · intro n s' hz9
            obtain ⟨xs2, tok2, ch2, t2', ln2', lt2', sgs2', sn2', h2', tk2', rfl, rfl, hG2, hC2, hl', hlt', hc', hy', gF, gN⟩ := hV2.to2 hz9
            clear hz9
            walk_at "next"
            · intro ln3 lt3 sgs3 sn3 h3 tk3 hx hln3 hy3 F3 N3
              obtain rfl := hx
              k_steps
              rename Fr _ _ _ _ => zF
              rename News _ _ _ _ => zN
              exact ⟨0, Nat.zero_lt_succ _, hV.of2 (.inr ⟨rfl, cend_mk (by simpa [upto] using hG2) (by rw [hln3, ← hC2]; simp [nlA]) (by simpa using hlt') hy3 zF zN⟩)⟩
            · intro c3 r3 t3 ln3 lt3 sgs3 sn3 h3 tk3 hx hln3 hy3 F3 N3
              obtain rfl := hx
              have hl2 : r3.length ≤ 10000 := Nat.le_of_succ_le hl'
              have hc2 : ∀ c ∈ r3, c < 1114112 := fun c h => hc' c (.tail _ h)
              have hcc3 : c3 < 1114112 := hc' c3 (.head _)
              clear hy' hc' hl' gN gF
              k_steps
              · rename Fr _ _ _ _ => zF
                rename News _ _ _ _ => zN
                rename (_ : Bool) = true => hst
                rw [q_eq] at hst
                rw [upto_stop (p := (· == 34)) hst, List.append_nil] at hG2
                (show LeaveK _ _ _ _ _ _ _)
                refine leaveK_ zF zN (fun kF kN kH => ?_)
                have hR := ret
                rw [← hG2] at hR
                exact hR _ ln3 _ _ _ _ _ _ (nlA_step hln3 hC2) hy3 kF (lex_join kN kH ⟨by k_mem, by k_mem, by k_mem, by k_mem, by k_mem, by k_mem, by k_mem, by k_mem, by k_mem, trivial⟩)
              · refine Stop.intro ?_
                rename ((⟨#[c3]⟩ : Str) == Str.ofString "\"") = false => hns
                rw [q_eq] at hns
                rw [upto_go (p := (· == 34)) hns, ← List.append_assoc] at hG2
                rename Fr _ _ _ _ => jF
                rename News _ _ _ _ => jN
                refine rd_join jF jN s (ln + nlA xs) c3 r3 tok2 t2' ?_ ?_
                · intro R hR
                  refine wpAny_If ?_
                  k_steps
                  · rename Fr _ _ _ _ => zF
                    rename News _ _ _ _ => zN
                    rename StrsAre _ _ => zy
                    rename _ = _ + nl1 (List.take 1 _) => zl
                    rename ((⟨#[c3]⟩ : Str) == Str.ofString "\\") = true => hes
                    exact hR.of2 (rd_esc hes zl (nlA_step hln3 hC2) zy (gtL_self zF rfl rfl rfl rfl (by intro y a b c d; simp only [gtL, if_neg a, if_neg b, if_neg c, if_neg d])) zN)
                  · rename Fr _ _ _ _ => zF
                    rename News _ _ _ _ => zN
                    rename ((⟨#[c3]⟩ : Str) == Str.ofString "\\") = false => hne
                    exact hR.of2 (rd_one hne (nlA_step hln3 hC2) hy3 (gtL_self zF rfl rfl rfl rfl (by intro y a b c d; simp only [gtL, if_neg a, if_neg b, if_neg c, if_neg d])) zN)
                · intro t5 ln5 lt5 sgs5 sn5 h5 tk5 hC5 hy5 hz5 F5 N5
                  dsimp only
                  k_steps
                  rename Fr _ _ _ _ => zF
                  rename News _ _ _ _ => zN
                  exact ⟨_, rd_lt _ _, hV2.of2 (cinv_mk (tok := tok2 ++ rdZ c3 r3) hG2 hC5 (rd_le hl2) (rd_len hlt') (rd_mem hc2) hy5 (gtL_fr zF rfl rfl rfl rfl (tok_snoc _ _) (by intro y a b c d; simp only [gtL, if_neg a, if_neg b, if_neg c, if_neg d])) zN)⟩
          · exact hV2.of2 (cinv_mk (tok := []) hT (nlA_step hln2 hC) hl2 (by rw [List.length_nil, Nat.zero_add]; exact hl2) hc2 iy (gtL_fr iF rfl rfl rfl rfl rfl (by intro y a b c d; simp only [gtL, if_neg a, if_neg b, if_neg c, if_neg d])) iN)
        · refine Stop.intro ?_
          rename (_ : Bool) = false => hqc
          rename List.isEmpty _ = true => hwc
          rw [ws_occ] at hwc
          rw [q_eq, beq_eq_false_iff_ne] at hqc
          rw [tokG_go (by simpa using hwc) hqc] at hT
          clear hqc hwc
          rename Fr _ _ _ _ => jF
          rename News _ _ _ _ => jN
          refine rd_join jF jN s (ln + nlA xs) c r [] t' ?_ ?_
          · intro R hR
            refine wpAny_If ?_
            k_steps
            · rename Fr _ _ _ _ => zF
              rename News _ _ _ _ => zN
              rename StrsAre _ _ => zy
              rename _ = _ + nl1 (List.take 1 _) => zl
              rename ((⟨#[c]⟩ : Str) == Str.ofString "\\") = true => hes
              exact hR.of2 (rd_esc hes zl (nlA_step hln2 hC) zy (gtL_self zF rfl rfl rfl rfl (by intro y a b c d; simp only [gtL, if_neg a, if_neg b, if_neg c, if_neg d])) zN)
            · rename Fr _ _ _ _ => zF
              rename News _ _ _ _ => zN
              rename ((⟨#[c]⟩ : Str) == Str.ofString "\\") = false => hne
              exact hR.of2 (rd_one hne (nlA_step hln2 hC) hy2 (gtL_self zF rfl rfl rfl rfl (by intro y a b c d; simp only [gtL, if_neg a, if_neg b, if_neg c, if_neg d])) zN)
          · intro t5 ln5 lt5 sgs5 sn5 h5 tk5 hC5 hy5 hz5 F5 N5
            dsimp only
            k_steps
            rename Fr _ _ _ _ => iF
            rename News _ _ _ _ => iN
            refine cit_pyIter iN (by k_mem) ?_
            (show codeAny _ _ _ _ _)
            refine sameC iF iN s (fun xs' tok' => (tok' ++ (upto ws xs').1, (upto ws xs').2) = tokG xs) (ln + nlA xs) (fun V2 hV2 => ?_)
            refine codeAny_forLoop V2 ?_ (rdR c r).length ?_
            · intro n s' hz9
              obtain ⟨xs2, tok2, ch2, t2', ln2', lt2', sgs2', sn2', h2', tk2', rfl, rfl, hG2, hC2, hl', hlt', hc', hy', gF, gN⟩ := hV2.to2 hz9
              clear hz9
              walk_at "next"
              · intro ln3 lt3 sgs3 sn3 h3 tk3 hx hln3 hy3 F3 N3
                obtain rfl := hx
                k_steps
                rename Fr _ _ _ _ => zF
                rename News _ _ _ _ => zN
                exact ⟨0, Nat.zero_lt_succ _, hV.of2 (.inr ⟨rfl, cend_mk (by simpa [upto] using hG2) (by rw [hln3, ← hC2]; simp [nlA]) (by simpa using hlt') hy3 zF zN⟩)⟩
              · intro c3 r3 t3 ln3 lt3 sgs3 sn3 h3 tk3 hx hln3 hy3 F3 N3
                obtain rfl := hx
                have hl2 : r3.length ≤ 10000 := Nat.le_of_succ_le hl'
                have hc2 : ∀ c ∈ r3, c < 1114112 := fun c h => hc' c (.tail _ h)
                have hcc3 : c3 < 1114112 := hc' c3 (.head _)
                clear hy' hc' hl' gN gF
                k_steps
                · refine Stop.intro ?_
                  rename List.isEmpty _ = true => hns
                  rw [ws_occ] at hns
                  replace hns : ws c3 = false := by simpa using hns
                  rw [upto_go (p := ws) hns, ← List.append_assoc] at hG2
                  rename Fr _ _ _ _ => jF
                  rename News _ _ _ _ => jN
                  refine rd_join jF jN s (ln + nlA xs) c3 r3 tok2 t2' ?_ ?_
                  · intro R hR
                    refine wpAny_If ?_
                    k_steps
                    · rename Fr _ _ _ _ => zF
                      rename News _ _ _ _ => zN
                      rename StrsAre _ _ => zy
                      rename _ = _ + nl1 (List.take 1 _) => zl
                      rename ((⟨#[c3]⟩ : Str) == Str.ofString "\\") = true => hes
                      exact hR.of2 (rd_esc hes zl (nlA_step hln3 hC2) zy (gtL_self zF rfl rfl rfl rfl (by intro y a b c d; simp only [gtL, if_neg a, if_neg b, if_neg c, if_neg d])) zN)
                    · rename Fr _ _ _ _ => zF
                      rename News _ _ _ _ => zN
                      rename ((⟨#[c3]⟩ : Str) == Str.ofString "\\") = false => hne
                      exact hR.of2 (rd_one hne (nlA_step hln3 hC2) hy3 (gtL_self zF rfl rfl rfl rfl (by intro y a b c d; simp only [gtL, if_neg a, if_neg b, if_neg c, if_neg d])) zN)
                  · intro t5 ln5 lt5 sgs5 sn5 h5 tk5 hC5 hy5 hz5 F5 N5
                    dsimp only
                    k_steps
                    rename Fr _ _ _ _ => zF
                    rename News _ _ _ _ => zN
                    exact ⟨_, rd_lt _ _, hV2.of2 (cinv_mk (tok := tok2 ++ rdZ c3 r3) hG2 hC5 (rd_le hl2) (rd_len hlt') (rd_mem hc2) hy5 (gtL_fr zF rfl rfl rfl rfl (tok_snoc _ _) (by intro y a b c d; simp only [gtL, if_neg a, if_neg b, if_neg c, if_neg d])) zN)⟩
                · rename Fr _ _ _ _ => zF
                  rename News _ _ _ _ => zN
                  rename List.isEmpty _ = false => hst
                  rw [ws_occ] at hst
                  replace hst : ws c3 = true := by simpa using hst
                  rw [upto_stop (p := ws) hst, List.append_nil] at hG2
                  (show LeaveK _ _ _ _ _ _ _)
                  refine leaveK_ zF zN (fun kF kN kH => ?_)
                  have hR := ret
                  rw [← hG2] at hR
                  exact hR _ ln3 _ _ _ _ _ _ (nlA_step hln3 hC2) hy3 kF (lex_join kN kH ⟨by k_mem, by k_mem, by k_mem, by k_mem, by k_mem, by k_mem, by k_mem, by k_mem, by k_mem, trivial⟩)
            · exact hV2.of2 (cinv_mk (tok := [] ++ rdZ c r) hT hC5 (rd_le hl2) (rd_len hlt) (rd_mem hc2) hy5 (gtL_fr iF rfl rfl rfl rfl (tok_snoc _ _) (by intro y a b c d; simp only [gtL, if_neg a, if_neg b, if_neg c, if_neg d])) iN)
        · rename List.isEmpty _ = false => hwc
          rw [ws_occ] at hwc
          rw [tokG_ws (by simpa using hwc)] at hT
          rename Fr _ _ _ _ => zF
          rename News _ _ _ _ => zN
          exact ⟨_, Nat.lt_succ_self _, hV.of2 (.inl (cinv_mk ⟨rfl, hT⟩ (nlA_step hln2 hC) hl2 (by rw [List.length_nil, Nat.zero_add]; exact hl2) hc2 hy2 (gtL_fr zF rfl rfl rfl rfl rfl (by intro y a b c d; simp only [gtL, if_neg a, if_neg b, if_neg c, if_neg d])) zN))⟩
    · obtain ⟨tok, ch, t', lt', sgs', sn', h', tk', rfl, hG, hlt, hy', gF, gN⟩ := hI
      refine cit_ended gF gN (by k_mem) rfl (fun h3 F3 N3 => ?_)
      clear gF gN hl hc hz8
      dsimp only
      k_steps
      rename Fr _ _ _ _ => zF
      rename News _ _ _ _ => zN
      (show LeaveK _ _ _ _ _ _ _)
      refine leaveK_ zF zN (fun kF kN kH => ?_)
      have hR := ret
      rw [← hG] at hR
      exact hR _ _ _ _ _ _ _ _ (by (show _ + nlA [] = _); rw [nlA, Int.add_zero]) hy' kF (lex_join kN kH ⟨by k_mem, by k_mem, by k_mem, by k_mem, by k_mem, by k_mem, by k_mem, by k_mem, by k_mem, trivial⟩)
  · refine hV.of2 (.inl (cinv_mk (tok := []) ⟨rfl, rfl⟩ rfl hl (by rw [List.length_nil, Nat.zero_add]; exact hl) hc hy (gtL_fr fF rfl rfl rfl rfl (by decide +kernel) ?_) fN))
    intro y a b c d
    rw [if_neg a, if_neg b]
    (show List.lookup y [(Str.ofString "self", _)] = none)
    rw [List.lookup_cons, beq_false_of_ne d]
    rfl
end
end
section
open PySem PySem.W PyProof.Rows
section
variable {prog p : Program} {w : World} {loose : List Str} {mean : ExcName → Option Value} {mg mb : Str → Option Value} {dp un : Nat} {gd : Option (List Code)} {cn : Str} {cs : Scope} {a : Addr} {ccd : Value} {cl : List (Str × Addr)} {outer : List Env} {A₀ : Around} {base h₀ : Heap} {L : Addr} {m : Str → Option Value} {s : Shared} {Q E : Value → Shared → Prop} {news : List (Addr × Obj)}
local macro_rules | `(tactic| k_room) => `(tactic| ktr_room)
theorem c_push {P : LexP} {ln : Int} {lt : Tok} {pbs : List Value} {pn : Nat} {sgs : List Value} {sn : Nat} {xs : List Nat} {y : Value} (hz : pbs.length < 1000) (B : Below A₀ base outer h₀) (F : Fr h₀ L s.heap m) (X : (pre.heap_1_39 w.params).In h₀) (N : News h₀ L s.heap (lexNews w P ln lt pbs.toArray pn sgs.toArray sn news)) (T : Top p loose mean mg mb h₀) (hk : cs.kind = .function)
   (hd : dp + 2 < recursionLimit) (hu : un + 40 < cLine) (ok : LexOk prog w P) (ap : Apart P news)
   (ret : ∀ pn' h' tk', Fr h₀ L h' m → News h₀ L h' (lexNews w P ln lt (pbs ++ [y]).toArray pn' sgs.toArray sn news) → Q .none { s with heap := h', toks := tk' }) :
   wpAny (model prog w) (ktrTop dp un gd cn cs L a ccd cl outer) (call (.ref 49) [.ref P.lx, y]) Q E s := by
  w_top off
  have NS := (lex_split N).1
  have NH := (lex_split N).2
  have ko := apart_off (ln := ln) (lt := lt) (pbs := pbs.toArray) (pn := pn) (sgs := sgs.toArray) (sn := sn) ap ok
  have o1 := ok.o1; have o2 := ok.o2; have o3 := ok.o3; have o4 := ok.o4; have o5 := ok.o5; have o6 := ok.o6; have o7 := ok.o7; have o8 := ok.o8
  refine wpAny_call ?_
  k_dflt (refine' enterS  ?k1 ?k2 ?k3 ?k4 ?kh ?ko ?k5 ?kA ?kF ?kK ?k6 ?k7 ?k8 ?k9 ?kB ?_ ?c2 ?c3 ?c4 ?c5; (case kA => exact rfl); (case kF => exact rfl); (case kK => assumption); (case k1 => k_asm); (case k2 => k_asm); (case k3 => k_asm); (case k4 => ((rename News _ _ _ (_ :: _) => nS); exact nS)); (case kh => k_asm); (case ko => assumption); (case k5 => k_asm); (case k6 => k_is); (case k7 => k_is); (case k8 => ktr_room); (case k9 => exact BindsTo.of_eq rfl); (case c5 => decide); (case kB => exact locs rfl); (case c2 => exact rfl); (case c3 => exact rfl); (case c4 => exact rfl); k_whole; intro g' L' h' FG' F' N' B' X' T' l1 hG' hL'; (try k_lt l1); (try dsimp only); (try k_lift B'); (try k_fold); refine hideW ?_; intro _ _ _ _)
  clear B F X N T NS NH ko
  k_steps
  rename Fr _ _ _ _ => fF
  rename News _ _ _ _ => fN
  (show LeaveK _ _ _ _ _ _ _)
  refine leaveK_ fF fN (fun kF kN kH => ?_)
  have e : pbs.toArray.push y = (pbs ++ [y]).toArray := by simp
  rw [e] at kN
  exact ret _ _ _ kF (lex_join kN kH ⟨by k_mem, by k_mem, by k_mem, by k_mem, by k_mem, by k_mem, by k_mem, by k_mem, by k_mem, trivial⟩)
end
end
section
open PySem PySem.W PyProof.Rows
section
variable {prog p : Program} {w : World} {loose : List Str} {mean : ExcName → Option Value} {mg mb : Str → Option Value} {dp un : Nat} {gd : Option (List Code)} {cn : Str} {cs : Scope} {a : Addr} {ccd : Value} {cl : List (Str × Addr)} {outer : List Env} {A₀ : Around} {base h₀ : Heap} {L : Addr} {m : Str → Option Value} {s : Shared} {Q E : Value → Shared → Prop} {news : List (Addr × Obj)}
local macro_rules | `(tactic| k_room) => `(tactic| ktr_room)
local macro_rules | `(tactic| walk_at "exec For Name Call cons nil") => `(tactic| (k_here; (with_unfolding_all refine' wpAny_For ?_ ?hs); (case hs => (intro _; with_unfolding_all rfl))))
local macro_rules | `(tactic| walk_at "eval DictComp") => `(tactic| (k_here; refine Stop.out ?_))
local macro_rules | `(tactic| walk_at "exec While") => `(tactic| (k_here; refine Stop.out ?_))
local macro_rules | `(tactic| walk_at "Exists") => `(tactic| (k_here; refine Stop.out ?_))
local macro_rules | `(tactic| walk_at "call builtin:dict.update") => `(tactic| (k_here; k_dflt (refine' kt_update_K PyProof.V.same_str ?F ?N ?U ?hd ?hf ?T ?ne ?_ ?sz; (case F | N => k_asm); (case T | hd | hf => assumption); (case U => k_updF); (case ne => k_ne); (case sz => exact merge_sz (by first | assumption | decide))); intro h8 o8 kvs8 F8 N8 hd8 hf8))
local macro_rules | `(tactic| walk_at "call builtin:dict.get") => `(tactic| (k_here; k_dflt (refine' call_get2_strTab ?T ?x ?_; (case T => k_tabat); (case x => k_flat)); intro v9 hv9; obtain ⟨⟨t9, e9⟩, z9⟩ := ref_flat hv9; subst e9))
local macro_rules | `(tactic| walk_at "call ref") => `(tactic| (k_here; (with_reducible show wpAny _ _ (call (Value.ref 160) _) _ _ _); k_dflt (refine' c_number ?kB ?kF ?kX ?kN ?kT ?kK ?kd ?ku _ _ ?_; (case kB | kF | kX | kN | kT | kK => first | k_asm | exact rfl); (case kd | ku => first | ktr_room | ktr_units)); intro t9 h9 tk9 F9 N9; (try k_fold)))
local macro_rules | `(tactic| walk_at "call ref") => `(tactic| (k_here; (with_reducible show wpAny _ _ (call (Value.ref 66) _) _ _ _); k_dflt (refine' c_isnt ?kB ?kF ?kX ?kN ?kT ?kK ?kd ?ku _ _ ?_; (case kB | kF | kX | kN | kT | kK => first | k_asm | exact rfl); (case kd | ku => first | ktr_room | ktr_units)); intro h9 tk9 F9 N9; (try k_fold)))
local macro_rules | `(tactic| walk_at "call ref") => `(tactic| (k_here; (with_reducible show wpAny _ _ (call (Value.ref 136) _) _ _ _); k_dflt (refine' c_spelled ?kB ?kF ?kX ?kN ?kT ?kK ?kd ?ku ?_; (case kB | kF | kX | kN | kT | kK => first | k_asm | exact rfl); (case kd | ku => first | ktr_room | ktr_units)); intro l9 d0 d1 d2 d3 d4 o0 o1 o2 o3 o4 n9 h9 tk9 F9 N9 S0 S1 S2 S3 S4 q0 q1 q2 q3 q4 q5; have q6 := q0; (try k_lt q0); (try k_fold)))
theorem five (i : Nat) (h : i < 5) : i = 0 ∨ i = 1 ∨ i = 2 ∨ i = 3 ∨ i = 4 := by
  match i, h with
  | 0, _ => exact .inl rfl
  | 1, _ => exact .inr (.inl rfl)
  | 2, _ => exact .inr (.inr (.inl rfl))
  | 3, _ => exact .inr (.inr (.inr (.inl rfl)))
  | 4, _ => exact .inr (.inr (.inr (.inr rfl)))
theorem five_mem {g h : Heap} {L : Addr} {q : Addr × Obj} {l d0 d1 d2 d3 d4 : Addr} {o0 o1 o2 o3 o4 : Obj} {n : Nat} {rest : List (Addr × Obj)} {i : Nat}
  (_N : News g L h (q :: (l, listOf #[.ref d0, .ref d1, .ref d2, .ref d3, .ref d4] n) :: (d4, o4) :: (d3, o3) :: (d2, o2) :: (d1, o1) :: (d0, o0) :: rest)) (hi : i < 5)
  (S0 : DictS prog w d0 o0 (tabD 0)) (S1 : DictS prog w d1 o1 (tabD 1)) (S2 : DictS prog w d2 o2 (tabD 2)) (S3 : DictS prog w d3 o3 (tabD 3)) (S4 : DictS prog w d4 o4 (tabD 4))
  (z0 : @LT.lt Nat _ 0 d0) (z1 : @LT.lt Nat _ 0 d1) (z2 : @LT.lt Nat _ 0 d2) (z3 : @LT.lt Nat _ 0 d3) (z4 : @LT.lt Nat _ 0 d4) :
  ∃ d o, (#[Value.ref d0, .ref d1, .ref d2, .ref d3, .ref d4])[i]? = some (.ref d) ∧ (∀ r, (d, o) ∈ (l, listOf #[.ref d0, .ref d1, .ref d2, .ref d3, .ref d4] n) :: (d4, o4) :: (d3, o3) :: (d2, o2) :: (d1, o1) :: (d0, o0) :: r) ∧ DictS prog w d o (tabD i) ∧ @LT.lt Nat _ 0 d := by
  obtain rfl | rfl | rfl | rfl | rfl := five i hi
  · exact ⟨_, _, rfl, fun _ => by k_mem, S0, z0⟩
  · exact ⟨_, _, rfl, fun _ => by k_mem, S1, z1⟩
  · exact ⟨_, _, rfl, fun _ => by k_mem, S2, z2⟩
  · exact ⟨_, _, rfl, fun _ => by k_mem, S3, z3⟩
  · exact ⟨_, _, rfl, fun _ => by k_mem, S4, z4⟩
/-- where the loop over the five tables stands -/
noncomputable def OInv (prog : Program) (w : World) (g : Heap) (L' : Addr) (m : Str → Option Value) (l d0 d1 d2 d3 d4 D c : Addr) (o0 o1 o2 o3 o4 : Obj) (n : Nat) (s : Shared) (I : Addr) (k : Nat) (s' : Shared) : Prop :=
  ∃ i oI oD' oc' v h' tk', s' = { s with heap := h', toks := tk' } ∧ i ≤ 5 ∧ k = 5 - i ∧ ItIs oI l i ∧ DictS prog w D oD' (mergeN i) ∧ oc'.data = .cell v ∧ Fr g L' h' m ∧ News g L' h' ((I, oI) :: (l, listOf #[.ref d0, .ref d1, .ref d2, .ref d3, .ref d4] n) :: (d4, o4) :: (d3, o3) :: (d2, o2) :: (d1, o1) :: (d0, o0) :: [(D, oD'), (c, oc')])
theorem sameO (prog : Program) {w : World} {g : Heap} {L' : Addr} {h : Heap} {m : Str → Option Value} {l d0 d1 d2 d3 d4 D c : Addr} {o0 o1 o2 o3 o4 oD oc : Obj} {n : Nat} (s : Shared) (_F : Fr g L' h m) (_N : News g L' h ((l, listOf #[.ref d0, .ref d1, .ref d2, .ref d3, .ref d4] n) :: (d4, o4) :: (d3, o3) :: (d2, o2) :: (d1, o1) :: (d0, o0) :: [(D, oD), (c, oc)])) (_S : DictS prog w D oD []) (I : Addr) {R : Prop} (k : ∀ V, Same V (OInv prog w g L' m l d0 d1 d2 d3 d4 D c o0 o1 o2 o3 o4 n s I) → R) : R := k _ ⟨rfl⟩
theorem c_opened {x : Str} {t : Tok} (B : Below A₀ base outer h₀) (F : Fr h₀ L s.heap m) (X : (pre.heap_1_39 w.params).In h₀) (N : News h₀ L s.heap news) (T : Top p loose mean mg mb h₀) (hk : cs.kind = .function)
   (hd : dp + 4 < recursionLimit) (hu : un + 60 < cLine) (hx : x.length ≤ 10000)
   (ret : ∀ t' h' tk', Fr h₀ L h' m → News h₀ L h' news → Q (.str ⟨(openL x.cps.toList).toArray⟩ t') { s with heap := h', toks := tk' }) :
   wpAny (model prog w) (ktrTop dp un gd cn cs L a ccd cl outer) (call (.ref 165) [.str x t]) Q E s := by
  w_top off
  refine wpAny_call ?_
  k_dflt (refine' enterCS (shown := []) ?k1 ?k2 ?k3 ?k4 ?kh ?ko ?k5 ?kA ?kF ?kK ?k6 ?k7 ?k8 ?k9 ?kB ?kD ?_ ?c2 ?c3 ?c4; (case kA => exact rfl); (case kF => exact rfl); (case kK => assumption); (case k1 => k_asm); (case k2 => k_asm); (case k3 => k_asm); (case k4 => exact News.nil); (case kh => k_asm); (case ko => exact fun _ _ _ h => nomatch h); (case k5 => k_asm); (case k6 => k_is); (case k7 => k_is); (case k8 => ktr_room); (case k9 => exact BindsTo.of_eq rfl); (case kB => exact rfl); (case kD => decide +kernel); (case c2 => exact rfl); (case c3 => exact rfl); (case c4 => exact rfl); k_whole; intro g' L' h' tk' cells' FG' F' N' Y' B' X' T' l1 hG' hL'; clear l1; k_cells Y'; (try simp only [List.cons_append, List.nil_append, List.append_nil] at N'); (try dsimp only); (try k_lift B'); (try k_fold); refine hideW ?_; intro _ _ _ _)
  clear B F X N T
  k_steps
  rename Fr _ _ _ _ => fF
  rename News _ _ _ _ => fN
  rename DictS _ _ _ _ (tabD 0) => S0
  rename DictS _ _ _ _ (tabD 1) => S1
  rename DictS _ _ _ _ (tabD 2) => S2
  rename DictS _ _ _ _ (tabD 3) => S3
  rename DictS _ _ _ _ (tabD 4) => S4
  rename Obj.IsDictOf (PySem.strKind prog w) _ [] => sD
  rename (_ == sysModules) = false => sL
  rename PyProof.V.FlatPairs PyData.str [] [] => sF
  have SD : DictS prog w _ _ [] := ⟨sL, _, sD, sF⟩
  refine iterL fF fN (by k_mem) (fun I oI h1 hI F1 N1 hlt => ?_)
  (show codeAny _ _ _ _ _)
  refine sameO prog s fF fN SD I (fun V hV => ?_)
  refine codeAny_forLoop V ?_ 5 ?_
  · intro k s' hz9
    obtain ⟨i, oI', oD', oc', v, h', tk', rfl, hi, rfl, hI', hS', hc', gF, gN⟩ := hV.to2 hz9
    obtain ⟨sL', kvs', hD', hf'⟩ := hS'
    have hlt' := hlt
    k_lt hlt
    obtain hi5 | hi5 := Nat.lt_or_ge i 5
    · obtain ⟨d, o, hz, hm, S9, z9⟩ := five_mem gN hi5 S0 S1 S2 S3 S4 (by omega) (by omega) (by omega) (by omega) (by omega)
      refine nextL gF gN (by k_all) hI' (by k_mem) hz (fun h2 oI2 hI2 F2 N2 => ?_)
      clear gF gN
      dsimp only
      walk_at "hide"
      k_steps
      refine Stop.intro ?_
      k_dflt (refine comp_flip (D := tabD i) (xs := keysN i) (kf := fun x => fm (spell i) x) rfl (by k_asm) (by k_asm) (by k_mem) (by assumption) (.tail _ (hm _)) S9 z9 (flip_keys i) (flip_lk hi5) (flip_len hi5) rfl rfl rfl (by decide) (by decide) (by with_unfolding_all rfl) rfl (by decide) (by rfl) (by decide) (by rfl) (fun _ => rfl) (fun _ => rfl) (fun _ => rfl) ?_)
      intro T h3 tk3 F3 N3 hT TT
      k_lt hT
      k_steps
      rename Obj.IsDictOf _ _ _ => hd8
      rename PyProof.V.FlatPairs _ _ _ => hf8
      rename Fr _ _ _ _ => zF
      rename News _ _ _ _ => zN
      rename Obj.data _ = Data.cell _ => zc
      (show ∃ m, _ ∧ _)
      exact ⟨5 - (i + 1), by omega, hV.of2 ⟨i + 1, oI2, _, _, _, _, _, rfl, hi5, rfl, hI2, ⟨sL', _, hd8, hf8⟩, zc, zF, zN⟩⟩
    · obtain rfl : i = 5 := by omega
      refine endL gF gN (by k_all) hI' (by k_mem) rfl rfl (fun h2 F2 N2 => ?_)
      clear gF gN
      dsimp only
      k_steps
      rename Fr _ _ _ _ => wF
      rename News _ _ _ _ => wN
      have S5 : DictS prog w _ oD' (mergeN 5) := ⟨sL', _, hD', hf'⟩
      have wN1 := news_sub (want := [(_, oD')]) wN ⟨by k_mem, trivial⟩
      refine wpAny_While ?_
      refine sameI (WInv s wF wN1 x t) (fun V2 hV2 => ?_)
      refine codeAny_whileLoop V2 ?_ (x.length + 1) ?_
      · intro n s' hz9
        obtain ⟨a, txt, e, t1, t2, h', tk', rfl, ha, hn9, hG, ht, gF, gN⟩ := hV2.to2 hz9
        clear hz9
        walk_at "hide"
        k_steps
        · obtain ⟨c, hc1, hc2⟩ := item_drop x a (by omega)
          rename numL _ = 19 => hn
          rw [hc2] at hn
          rename Fr _ _ _ _ => vF
          rename News _ _ _ _ => vN
          refine wpAny_While ?_
          have hax : a < x.length := by omega
          refine sameI (VInv s wF wN1 x t a txt) (fun V3 hV3 => ?_)
          refine codeAny_whileLoop V3 ?_ (x.length - (a + 1)) ?_
          · intro n s' hz9
            obtain ⟨e2, t1', t2', t3', h', tk', rfl, he1, he2, hn8, hE, gF, gN⟩ := hV3.to2 hz9
            clear hz9
            walk_at "hide"
            k_steps
            · rename Fr _ _ _ _ => zF
              rename News _ _ _ _ => zN
              rename 256 ≤ numL _ => hbg
              have hlt8 : e2 < x.length := by omega
              exact vinv_mk hV3 hn8 hlt8 he1 hE hbg rfl (opL_fr2 zF rfl rfl rfl rfl rfl rfl rfl rfl (by intro y a b c d e; simp only [opL, if_neg a, if_neg b, if_neg c, if_neg d, if_neg e])) zN
            · rename Fr _ _ _ _ => zF
              rename News _ _ _ _ => zN
              rename ¬ 256 ≤ numL _ => hbg
              have hlt8 : e2 < x.length := by omega
              have hA := amp_facts x hc1 hE (tw_not hlt8 hbg) hax he2 hn
              rename numL _ = 13 => hs
              rw [if_pos hs] at hA
              rw [hA, ← List.append_assoc] at hG
              exact winv_mk hV2 hn9 hax ht (Nat.le_of_succ_le he1) he2 (Nat.le_of_eq (ref_len _)) hG rfl (opL_fr zF rfl rfl rfl rfl rfl rfl (tok_snoc txt _) (by intro y a b c d e; simp only [opL, if_neg a, if_neg b, if_neg c, if_neg d, if_neg e])) zN
            · rename Fr _ _ _ _ => zF
              rename News _ _ _ _ => zN
              rename ¬ 256 ≤ numL _ => hbg
              have hlt8 : e2 < x.length := by omega
              have hA := amp_facts x hc1 hE (tw_not hlt8 hbg) hax he2 hn
              rename numL _ ≠ 13 => hs
              rw [if_neg hs] at hA
              rw [hA, ← List.append_assoc] at hG
              exact winv_mk hV2 hn9 hax ht (Nat.le_of_succ_le he1) he2 (one_le _) hG rfl (opL_fr zF rfl rfl rfl rfl rfl rfl (by rw [show Str.ofString "?" = ⟨#[63]⟩ from by decide +kernel]; exact tok_snoc txt [63]) (by intro y a b c d e; simp only [opL, if_neg a, if_neg b, if_neg c, if_neg d, if_neg e])) zN
            · rename Fr _ _ _ _ => zF
              rename News _ _ _ _ => zN
              have hA := amp_facts x hc1 hE (tw_end (by omega)) hax he2 hn
              rename numL _ = 13 => hs
              rw [if_pos hs] at hA
              rw [hA, ← List.append_assoc] at hG
              exact winv_mk hV2 hn9 hax ht (Nat.le_of_succ_le he1) he2 (Nat.le_of_eq (ref_len _)) hG rfl (opL_fr zF rfl rfl rfl rfl rfl rfl (tok_snoc txt _) (by intro y a b c d e; simp only [opL, if_neg a, if_neg b, if_neg c, if_neg d, if_neg e])) zN
            · rename Fr _ _ _ _ => zF
              rename News _ _ _ _ => zN
              have hA := amp_facts x hc1 hE (tw_end (by omega)) hax he2 hn
              rename numL _ ≠ 13 => hs
              rw [if_neg hs] at hA
              rw [hA, ← List.append_assoc] at hG
              exact winv_mk hV2 hn9 hax ht (Nat.le_of_succ_le he1) he2 (one_le _) hG rfl (opL_fr zF rfl rfl rfl rfl rfl rfl (by rw [show Str.ofString "?" = ⟨#[63]⟩ from by decide +kernel]; exact tok_snoc txt [63]) (by intro y a b c d e; simp only [opL, if_neg a, if_neg b, if_neg c, if_neg d, if_neg e])) zN
          · exact hV3.of2 ⟨a + 1, _, _, _, _, _, rfl, Nat.le_refl _, hax, rfl, rfl, opL_fr2 vF rfl rfl rfl rfl rfl rfl rfl rfl (by intro y a b c d e; simp only [opL, if_neg a, if_neg b, if_neg c, if_neg d, if_neg e]), vN⟩
        · obtain ⟨c, hc1, hc2⟩ := item_drop x a (by omega)
          rename numL _ ≠ 19 => hn
          rw [hc2] at hn
          rename Fr _ _ _ _ => vF
          rename News _ _ _ _ => vN
          rw [hc1, openL_one hn, List.append_cons] at hG
          exact winv_mk hV2 hn9 (by omega) ht (Nat.le_refl _) (by omega) (one_le _) hG rfl (opL_fr vF rfl rfl rfl rfl rfl rfl (by rw [hc2]; exact tok_snoc txt [c]) (by intro y a b c d e; simp only [opL, if_neg a, if_neg b, if_neg c, if_neg d, if_neg e])) vN
        · rename Fr _ _ _ _ => vF
          rename News _ _ _ _ => vN
          have e0 : x.cps.toList.drop a = [] := List.drop_eq_nil_of_le (by rw [Array.length_toList]; (show x.length ≤ a); omega)
          rw [e0, openL_nil, List.append_nil] at hG
          (show LeaveK _ _ _ _ _ _ _)
          refine leaveK_ vF vN (fun kF kN kH => ?_)
          rw [hG]
          exact ret _ _ _ kF kH
      · exact hV2.of2 ⟨0, [], _, _, _, _, _, rfl, Nat.zero_le _, rfl, rfl, Nat.le_refl _, opL_fr wF rfl rfl rfl rfl rfl rfl (by decide +kernel) (by (intro y a b c d e); rw [if_neg b, if_neg c, if_neg d]; (show (if y = Str.ofString "word" then some (Value.str x t) else none) = none); rw [if_neg e]), wN1⟩
  · rename Obj.data _ = Data.cell _ => zc
    exact hV.of2 ⟨0, oI, _, _, _, _, _, rfl, by decide, rfl, hI, SD, zc, F1, N1⟩
end
end
section
open PySem PySem.W PyProof.Rows
section
variable {prog p : Program} {w : World} {loose : List Str} {mean : ExcName → Option Value} {mg mb : Str → Option Value} {dp un : Nat} {gd : Option (List Code)} {cn : Str} {cs : Scope} {a : Addr} {ccd : Value} {cl : List (Str × Addr)} {outer : List Env} {A₀ : Around} {base h₀ : Heap} {L : Addr} {m : Str → Option Value} {s : Shared} {Q E : Value → Shared → Prop} {news : List (Addr × Obj)}
local macro_rules | `(tactic| k_room) => `(tactic| ktr_room)
local macro_rules | `(tactic| walk_at "exec For Name Call cons nil") => `(tactic| (k_here; (with_unfolding_all refine' wpAny_For ?_ ?hs); (case hs => (intro _; with_unfolding_all rfl))))
local macro_rules | `(tactic| walk_at "newList") => `(tactic| (k_here; k_dflt (refine' newList_B ?F ?N ?_ ?z; (case F | N => k_asm); (case z => size_fits)); intro D9 h9 F9 N9 l9 m9; (try k_lt l9); (try k_lt2 m9)))
local macro_rules | `(tactic| walk_at "Exists") => `(tactic| (k_here; refine Stop.out ?_))
theorem c_gtA {P : LexP} {ln : Int} {lt : Tok} {pbs : List Value} {pn : Nat} {sgs : List Value} {sn : Nat} {xs : List Nat} {pb : List (List Nat)} (B : Below A₀ base outer h₀) (F : Fr h₀ L s.heap m) (X : (pre.heap_1_39 w.params).In h₀) (N : News h₀ L s.heap (lexNews w P ln lt pbs.toArray pn sgs.toArray sn news)) (T : Top p loose mean mg mb h₀) (hk : cs.kind = .function)
   (hd : dp + 5 < recursionLimit) (hu : un + 140 < cLine) (ok : LexOk prog w P) (ap : Apart P news) (hy : StrsAre sgs (xs.map fun k => (⟨#[k]⟩ : Str))) (hl : xs.length ≤ 10000) (hc : ∀ c ∈ xs, c < 1114112) (hp : StrsAre pbs (pb.map strS)) (hz : pb.length < 1000)
   (ret : ∀ t' ln' lt' pbs' pn' sgs' sn' h' tk', ln' + nlA (nextW pb xs).2.2 = ln + nlA xs → StrsAre pbs' ((nextW pb xs).2.1.map strS) → StrsAre sgs' ((nextW pb xs).2.2.map fun k => (⟨#[k]⟩ : Str)) → Fr h₀ L h' m → News h₀ L h' (lexNews w P ln' lt' pbs'.toArray pn' sgs'.toArray sn' news) → Q (.str (strS (nextW pb xs).1) t') { s with heap := h', toks := tk' }) :
   wpAny (model prog w) (ktrTop dp un gd cn cs L a ccd cl outer) (call (.ref 42) [.ref P.lx]) Q E s := by
  w_top off
  cases pb with
  | nil =>
    cases hp
    exact c_gt B F X N T hk hd hu ok ap hy hl hc (fun t' ln' lt' pn' sgs' sn' h' tk' e1 e2 e3 e4 => ret t' ln' lt' [] pn' sgs' sn' h' tk' e1 .nil e2 e3 e4)
  | cons y r =>
    cases hp with
    | cons _ t hp =>
      exact c_gt_pb (xs := xs) (by have := strs_length hp; rw [List.length_map] at this; rw [List.length_cons] at hz; omega) B F X N T hk hd hu ok ap (fun pn' h' tk' e3 e4 => ret t ln lt _ pn' sgs sn h' tk' rfl hp hy e3 e4)
local macro_rules | `(tactic| walk_at "call ref") => `(tactic| (k_here; (with_reducible show wpAny _ _ (call (Value.ref 42) _) _ _ _); k_dflt (refine' c_gtA ?kB ?kF ?kX ?kN ?kT ?kK ?kd ?ku ?kok ?kap ?ky ?kl ?kc ?kp ?kz ?_; (case kB | kF | kX => first | k_asm | exact rfl); (case kN => exact lex_back (by k_asm)); (case kT | kK => first | k_asm | exact rfl); (case kd | ku => first | ktr_room | ktr_units); (case kok | ky | kp => assumption); (case kap => exact apart2 (by omega) (by omega)); (case kl | kc => assumption); (case kz => omega)); intro t9 ln9 lt9 pbs9 pn9 sgs9 sn9 h9 tk9 e9 p9 y9 F9 N9; replace N9 := lex_front N9; have u9 := strs_length p9; rw [List.length_map] at u9; (try k_fold)))
local macro_rules | `(tactic| walk_at "call ref") => `(tactic| (k_here; (with_reducible show wpAny _ _ (call (Value.ref 49) _) _ _ _); k_dflt (refine' c_push ?kz ?kB ?kF ?kX ?kN ?kT ?kK ?kd ?ku ?kok ?kap ?_; (case kB | kF | kX => first | k_asm | exact rfl); (case kN => exact lex_back (by k_asm)); (case kT | kK => first | k_asm | exact rfl); (case kd | ku => first | ktr_room | ktr_units); (case kz => omega); (case kok => assumption); (case kap => exact apart2 (by omega) (by omega))); intro pn9 h9 tk9 F9 N9; replace N9 := lex_front N9; (try k_fold)))
local macro_rules | `(tactic| walk_at "call ref") => `(tactic| (k_here; (with_reducible show wpAny _ _ (call (Value.ref 160) _) _ _ _); k_dflt (refine' c_number ?kB ?kF ?kX ?kN ?kT ?kK ?kd ?ku _ _ ?_; (case kB | kF | kX | kN | kT | kK => first | k_asm | exact rfl); (case kd | ku => first | ktr_room | ktr_units)); intro t9 h9 tk9 F9 N9; (try k_fold)))
local macro_rules | `(tactic| walk_at "call ref") => `(tactic| (k_here; (with_reducible show wpAny _ _ (call (Value.ref 73) _) _ _ _); k_dflt (refine' c_iseof ?kB ?kF ?kX ?kN ?kT ?kK ?kd ?ku _ _ ?_; (case kB | kF | kX | kN | kT | kK => first | k_asm | exact rfl); (case kd | ku => first | ktr_room | ktr_units)); intro h9 tk9 F9 N9; (try k_fold)))
local macro_rules | `(tactic| walk_at "call ref") => `(tactic| (k_here; (with_reducible show wpAny _ _ (call (Value.ref 165) _) _ _ _); k_dflt (refine' c_opened ?kB ?kF ?kX ?kN ?kT ?kK ?kd ?ku ?kx ?_; (case kB | kF | kX | kN | kT | kK => first | k_asm | exact rfl); (case kd | ku => first | ktr_room | ktr_units); (case kx => assumption)); intro t9 h9 tk9 F9 N9; (try k_fold)))
theorem c_turns {P : LexP} {ln : Int} {lt : Tok} {pbs : List Value} {pn : Nat} {sgs : List Value} {sn : Nat} {xs : List Nat} {pb : List (List Nat)} (B : Below A₀ base outer h₀) (F : Fr h₀ L s.heap m) (X : (pre.heap_1_39 w.params).In h₀) (N : News h₀ L s.heap (lexNews w P ln lt pbs.toArray pn sgs.toArray sn news)) (T : Top p loose mean mg mb h₀) (hk : cs.kind = .function)
   (hd : dp + 8 < recursionLimit) (hu : un + 170 < cLine) (ok : LexOk prog w P) (ap : Apart P news) (hy : StrsAre sgs (xs.map fun k => (⟨#[k]⟩ : Str))) (hl : xs.length ≤ 10000) (hc : ∀ c ∈ xs, c < 1114112) (hp : StrsAre pbs (pb.map strS)) (hz : pb.length < 1000) (hw : ∀ y ∈ pb, y.length ≤ 10000) (h9 : pb.length < 900)
   (ret : ∀ l vs n ln' lt' pbs' pn' sgs' sn' h' tk', ln' + nlA (turnsG 10 pb xs).2.2 = ln + nlA xs → StrsAre vs ((turnsG 10 pb xs).1.map strS) → StrsAre pbs' ((turnsG 10 pb xs).2.1.map strS) → StrsAre sgs' ((turnsG 10 pb xs).2.2.map fun k => (⟨#[k]⟩ : Str)) → Fr h₀ L h' m → News h₀ L h' ((l, listOf vs.toArray n) :: lexNews w P ln' lt' pbs'.toArray pn' sgs'.toArray sn' news) → (∀ q ∈ news, q.1 < l) → @LT.lt Nat _ P.pb l → Q (.ref l) { s with heap := h', toks := tk' }) :
   wpAny (model prog w) (ktrTop dp un gd cn cs L a ccd cl outer) (call (.ref 172) [.ref P.lx]) Q E s := by
  w_top off
  have NS := (lex_split N).1
  have NH := (lex_split N).2
  have ko := apart_off (ln := ln) (lt := lt) (pbs := pbs.toArray) (pn := pn) (sgs := sgs.toArray) (sn := sn) ap ok
  have o1 := ok.o1; have o2 := ok.o2; have o3 := ok.o3; have o4 := ok.o4; have o5 := ok.o5; have o6 := ok.o6; have o7 := ok.o7; have o8 := ok.o8
  refine wpAny_call ?_
  k_dflt (refine' enterS  ?k1 ?k2 ?k3 ?k4 ?kh ?ko ?k5 ?kA ?kF ?kK ?k6 ?k7 ?k8 ?k9 ?kB ?_ ?c2 ?c3 ?c4 ?c5; (case kA => exact rfl); (case kF => exact rfl); (case kK => assumption); (case k1 => k_asm); (case k2 => k_asm); (case k3 => k_asm); (case k4 => ((rename News _ _ _ (_ :: _) => nS); exact nS)); (case kh => k_asm); (case ko => assumption); (case k5 => k_asm); (case k6 => k_is); (case k7 => k_is); (case k8 => ktr_room); (case k9 => exact BindsTo.of_eq rfl); (case c5 => decide); (case kB => exact locs rfl); (case c2 => exact rfl); (case c3 => exact rfl); (case c4 => exact rfl); k_whole; intro g' L' h' FG' F' N' B' X' T' l1 hG' hL'; (try k_lt l1); (try dsimp only); (try k_lift B'); (try k_fold); refine hideW ?_; intro _ _ _ _)
  clear B F X N T NS NH ko
  k_steps
  rename Fr _ _ _ _ => fF
  rename News _ _ _ _ => fN
  rename IsRange _ _ _ _ _ _ _ _ => hR
  refine iterR hR fF fN (fun I h1 F1 N1 hI => ?_)
  (show codeAny _ _ _ _ _)
  refine sameT s F1 N1 (turnsG 10 pb xs) (ln + nlA xs) (fun V hV => ?_)
  refine codeAny_forLoop V ?_ 10 ?_
  · intro n s' hz8
    obtain ⟨i, ws, pb1, xs1, ln1, lt1, vs, nl, pbs1, pn1, sgs1, sn1, kv, wv, h', tk', rfl, hi, rfl, hT, hwl, hC, hl1, hc1, hw1, hp1, hv, hpb, hy1, gF, gN⟩ := hV.to2 hz8
    clear hz8
    clear hy hl hc hp hz hw h9
    k_lt hI
    obtain hi9 | hi9 := Nat.lt_or_ge i 10
    · refine nextR rfl gF gN (by k_all) hi9 (fun t2 h2 tk2 F2 N2 => ?_)
      clear gF gN
      have z9 : (strS (nextW pb1 xs1).1).length ≤ 10000 := nextW_len hl1 hw1
      have z8 : pb1.length < 1000 := by omega
      obtain ⟨z6, z7⟩ := nextW_pb (xs := xs1) hw1
      have z5 := nextW_rest (pb := pb1) hl1
      have z4 := nextW_sub (pb := pb1) hc1
      dsimp only
      walk_at "hide"
      k_steps
      · rename Fr _ _ _ _ => zF
        rename News _ _ _ _ => zN
        rename (_ : Bool) = true => hb
        have hE := turn_end hi9 hT (word_eof1 hb)
        rw [snoc_push] at zN
        (show LeaveK _ _ _ _ _ _ _)
        refine leaveK_ zF zN (fun kF kN kH => ?_)
        have hR := ret
        rw [← hE] at hR
        exact hR _ _ _ _ _ _ _ _ _ _ _ (Eq.trans (by assumption) hC) (strs_snocS hv) (by assumption) (by assumption) kF (news_cons kN (by k_mem) (lex_join kN kH ⟨by k_mem, by k_mem, by k_mem, by k_mem, by k_mem, by k_mem, by k_mem, by k_mem, by k_mem, trivial⟩)) (lt_news (by assumption) (by omega)) (by omega)
      · rename Fr _ _ _ _ => zF
        rename News _ _ _ _ => zN
        rename (_ : Bool) = false => hb
        rename numL _ = 0 => h0
        have hE := turn_end hi9 hT (word_eof2 hb h0)
        rw [snoc_push] at zN
        (show LeaveK _ _ _ _ _ _ _)
        refine leaveK_ zF zN (fun kF kN kH => ?_)
        have hR := ret
        rw [← hE] at hR
        exact hR _ _ _ _ _ _ _ _ _ _ _ (Eq.trans (by assumption) hC) (strs_snocS hv) (by assumption) (by assumption) kF (news_cons kN (by k_mem) (lex_join kN kH ⟨by k_mem, by k_mem, by k_mem, by k_mem, by k_mem, by k_mem, by k_mem, by k_mem, by k_mem, trivial⟩)) (lt_news (by assumption) (by omega)) (by omega)
      · rename Fr _ _ _ _ => zF
        rename News _ _ _ _ => zN
        rename (_ : Bool) = false => hb
        rename ¬ numL _ = 0 => h0
        rename numL _ ≠ 41 => h1
        rename numL _ = 19 => h2
        have ha := word_amp h1 h2
        rename StrsAre _ (List.map strS (nextW _ _).2.1) => p9
        simp only [snoc_push] at zN
        exact tinv_mk hV hi9 (turn_on (pb' := (nextW pb1 xs1).2.1 ++ [openL (nextW pb1 xs1).1]) hi9 hT (word_go hb h0) (by rw [ha]; rfl)) (by rw [List.length_append, hwl]; rfl) (Eq.trans (by assumption) hC) z5 z4 (pb_bound z6 z9) (by rw [List.length_append]; simp only [List.length_cons, List.length_nil]; omega) (strs_snocS hv) (strs_snocS p9) (by assumption) (tuL_fr zF rfl rfl rfl rfl (by intro y a b c d; simp only [tuL, if_neg a, if_neg b, if_neg c, if_neg d])) zN
      · rename Fr _ _ _ _ => zF
        rename News _ _ _ _ => zN
        rename (_ : Bool) = false => hb
        rename ¬ numL _ = 0 => h0
        rename numL _ ≠ 19 => h1
        have ha := word_no1 h1
        rename StrsAre _ (List.map strS (nextW _ _).2.1) => p9
        simp only [snoc_push] at zN
        exact tinv_mk hV hi9 (turn_on (pb' := (nextW pb1 xs1).2.1) hi9 hT (word_go hb h0) (by rw [ha]; rfl)) (by rw [List.length_append, hwl]; rfl) (Eq.trans (by assumption) hC) z5 z4 z6 (by omega) (strs_snocS hv) p9 (by assumption) (tuL_fr zF rfl rfl rfl rfl (by intro y a b c d; simp only [tuL, if_neg a, if_neg b, if_neg c, if_neg d])) zN
      · rename Fr _ _ _ _ => zF
        rename News _ _ _ _ => zN
        rename (_ : Bool) = false => hb
        rename ¬ numL _ = 0 => h0
        rename numL _ = 41 => h1
        have ha := word_no2 h1
        rename StrsAre _ (List.map strS (nextW _ _).2.1) => p9
        simp only [snoc_push] at zN
        exact tinv_mk hV hi9 (turn_on (pb' := (nextW pb1 xs1).2.1) hi9 hT (word_go hb h0) (by rw [ha]; rfl)) (by rw [List.length_append, hwl]; rfl) (Eq.trans (by assumption) hC) z5 z4 z6 (by omega) (strs_snocS hv) p9 (by assumption) (tuL_fr zF rfl rfl rfl rfl (by intro y a b c d; simp only [tuL, if_neg a, if_neg b, if_neg c, if_neg d])) zN
    · obtain rfl : i = 10 := by omega
      refine endR rfl gF gN (by k_all) (fun h2 tk2 F2 N2 => ?_)
      clear gF gN
      dsimp only
      k_steps
      rename Fr _ _ _ _ => zF
      rename News _ _ _ _ => zN
      (show LeaveK _ _ _ _ _ _ _)
      refine leaveK_ zF zN (fun kF kN kH => ?_)
      rw [Nat.sub_self, turnsG, List.append_nil] at hT
      have hR := ret
      rw [← hT] at hR
      exact hR _ _ _ _ _ _ _ _ _ _ _ hC hv hpb hy1 kF (news_cons kN (by k_mem) (lex_join kN kH ⟨by k_mem, by k_mem, by k_mem, by k_mem, by k_mem, by k_mem, by k_mem, by k_mem, by k_mem, trivial⟩)) (lt_news (by assumption) (by omega)) (by omega)
  · refine hV.of2 ⟨0, [], pb, xs, ln, lt, [], _, pbs, pn, sgs, sn, _, _, _, _, rfl, by decide, rfl, rfl, rfl, rfl, hl, hc, hw, h9, .nil, hp, hy, tuL_fr F1 rfl rfl rfl rfl ?_, N1⟩
    intro y a b c d
    rw [if_neg c]
    (show List.lookup y [(Str.ofString "lexer", _)] = none)
    rw [List.lookup_cons, beq_false_of_ne d]
    rfl
end
end
section
open PySem PySem.W PyProof.Rows
section
variable {prog p : Program} {w : World} {loose : List Str} {mean : ExcName → Option Value} {mg mb : Str → Option Value} {dp un : Nat} {gd : Option (List Code)} {cn : Str} {cs : Scope} {a : Addr} {ccd : Value} {cl : List (Str × Addr)} {outer : List Env} {A₀ : Around} {base h₀ : Heap} {L : Addr} {m : Str → Option Value} {s : Shared} {Q E : Value → Shared → Prop} {news : List (Addr × Obj)}
theorem c_dressed2 (B : Below A₀ base outer h₀) (F : Fr h₀ L s.heap m) (X : (pre.heap_1_39 w.params).In h₀) (N : News h₀ L s.heap news) (T : Top p loose mean mg mb h₀) (hk : cs.kind = .function)
   (hd : dp + 3 < recursionLimit) (hu : un + 22 < cLine) (x : Str) (t : Tok) (d : Int) (t2 : Tok) (hx : x.length ≤ 144)
   (ret : ∀ t' h' tk', (dressS x d).length ≤ 300 → Fr h₀ L h' m → News h₀ L h' news → Q (.str (dressS x d) t') { s with heap := h', toks := tk' }) :
   wpAny (model prog w) (ktrTop dp un gd cn cs L a ccd cl outer) (call (.ref 153) [.str x t, .int d t2]) Q E s :=
  c_dressed B F X N T hk hd hu x t d t2 (Nat.le_trans hx (by decide)) fun t' h' tk' => ret t' h' tk' (dress_len d hx)
end
end
end Mine
end
section
open PySem PySem.W PyProof.Rows
namespace Mine
local macro_rules | `(tactic| walk_at "fact") => `(tactic| with_reducible first | assumption | (refine Nat.lt_trans ?_ (by assumption); walk_at "fact"))
local macro_rules | `(tactic| omega) => `(tactic| with_reducible first | exact Nat.le_of_ble_eq_true rfl | assumption | exact room1 (by assumption) rfl | exact room0 (by assumption) rfl | exact room00 (by assumption) | exact le_lit (by assumption) rfl | (refine lt_ne ?_; walk_at "fact") | (refine gt_ne ?_; walk_at "fact") | (refine ltD ?_; walk_at "fact") | fail)
local macro_rules | `(tactic| k_steps) => `(tactic| repeat' (first | (with_reducible refine unh (by assumption) ?_; try dsimp only) | (k_unfold; (try dsimp only)) | (k_end; wrow_close) | walk1 | (dsimp only; walk1) | (leave1; walk_say "STEP leave1"; try dsimp only) | fail "no step"))
local macro_rules | `(tactic| walk_at "hide") => `(tactic| ((try dsimp only); first | (refine hideW ?_; intro _ _ _ _) | (refine hideC ?_; intro _ _)))
local macro_rules | `(tactic| k_in) => `(tactic| exact Frag.In.keeps (by k_asm) (Fr.keep (by k_asm)))
local macro_rules | `(tactic| k_lt $h:ident) => `(tactic| ((first | (have hB := And.right (lt_head2 $h); replace $h := And.left (lt_head2 $h); dsimp only at hB) | replace $h := lt_head $h); dsimp only at $h:ident))
local macro_rules | `(tactic| walk_at "exec For Tuple Call") => `(tactic| (k_here; (with_unfolding_all refine' wpAny_For ?_ ?hs); (case hs => (intro _; with_unfolding_all rfl))))
local macro_rules | `(tactic| walk_at "exec For Name Name cons nil") => `(tactic| (k_here; (with_reducible show wpAny _ _ (exec (Stmt.For (Expr.Name (Str.ofString "hand") _) _ _ _ _) _) _ _ _); (with_unfolding_all refine' wpAny_For ?_ ?hs); (case hs => (intro _; with_unfolding_all rfl))))
local macro_rules | `(tactic| walk_at "call type:enumerate") => `(tactic| (k_here; k_dflt (refine' enumN ?F ?N ?l ?_; (case F | N => k_asm); (case l => k_mem)); intro e9 it9 h9 st9 o9 L9 ie9 F9 N9; have o8 := o9; (try k_lt o9)))
local macro_rules | `(tactic| k_all) => `(tactic| (with_reducible first | exact tail_gt (by assumption) (Nat.le_refl _) | exact tail_gt (by assumption) (Nat.le_of_lt (by walk_at "fact")) | exact tail_lt (by assumption) (Nat.le_refl _) | exact tail_lt (by assumption) (Nat.le_of_lt (by walk_at "fact")) | fail))
local macro_rules | `(tactic| walk_at "call builtin:list.append") => `(tactic| (k_here; (with_reducible show wpAny _ _ (call (Value.builtin _) [Value.ref _, _]) _ _ _); k_dflt (refine' append_K ?k1 ?k2 ?k3 ?_ ?z; (case k1 | k2 => k_asm); (case k3 => k_upd); (case z => first | exact fit_rows (by assumption) (by assumption) | exact fit_outs (by assumption) (by assumption))); intro h' F' N'))
local macro_rules | `(tactic| walk_at "Exists") => `(tactic| (k_here; refine Stop.out ?_))
local macro_rules | `(tactic| walk_at "exec For Name Call cons nil") => `(tactic| (k_here; (with_unfolding_all refine' wpAny_For ?_ ?hs); (case hs => (intro _; with_unfolding_all rfl))))
local macro_rules | `(tactic| walk_at "call ref") => `(tactic| (k_here; (with_reducible show wpAny _ _ (call (Value.ref _) _) _ _ _); refine Stop.out ?_))
local macro_rules | `(tactic| walk_at "call ref") => `(tactic| (k_here; (with_reducible show wpAny _ _ (call (Value.ref 143) _) _ _ _); k_dflt (refine' c_letter ?kB ?kF ?kX ?kN ?kT ?kK ?kd ?ku _ _ _ _ ?_; (case kB | kF | kX | kN | kT | kK => first | k_asm | exact rfl); (case kd | ku => first | ktr_room | ktr_units)); intro tp9 hl9 t9 vs9 h9 tk9 i9 F9 N9 q0 q1; have q2 := q0; have hT9 := tailB q0; (try k_lt q0); (try k_fold)))
local macro_rules | `(tactic| walk_at "call ref") => `(tactic| (k_here; (with_reducible show wpAny _ _ (call (Value.ref 148) _) _ _ _); k_dflt (refine' c_layers ?kB ?kF ?kX ?kN ?kT ?kK ?kd ?ku _ _ ?hI ?h5 ?h2 ?off ?hx ?_; (case kB | kF | kX => first | k_asm | exact rfl); (case kN => exact news_sw (by k_asm)); (case kT | kK => first | k_asm | exact rfl); (case kd | ku => first | ktr_room | ktr_units); (case hI => assumption); (case h5 => exact hands_ok _); (case h2 => exact hands_two _); (case hx => exact Nat.le_of_ble_eq_true rfl); (case off => (refine off_all ?_; k_all))); intro l9 ys9 n9 h9 tk9 y9 F9 N9 q0; have q2 := q0; have q3 := q0 _ (List.Mem.tail _ (List.Mem.head _)); dsimp only at q3; (try k_lt q0); (try k_fold)))
local macro_rules | `(tactic| walk_at "call ref") => `(tactic| (k_here; (with_reducible show wpAny _ _ (call (Value.ref 153) _) _ _ _); k_dflt (refine' c_dressed2 ?kB ?kF ?kX ?kN ?kT ?kK ?kd ?ku _ _ _ _ ?hx ?_; (case kB | kF | kX | kN | kT | kK => first | k_asm | exact rfl); (case kd | ku => first | ktr_room | ktr_units); (case hx => exact out_len2 _ _)); intro t9 h9 tk9 b9 F9 N9; (try k_fold)))
local macro_rules | `(tactic| walk_at "call ref") => `(tactic| (k_here; (with_reducible show wpAny _ _ (call (Value.ref 129) _) _ _ _); k_dflt (refine' c_written ?kB ?kF ?kX ?kN ?kT ?kK ?kd ?ku _ _ _ _ ?h0 ?h5 ?hx ?_; (case kB | kF | kX | kN | kT | kK => first | k_asm | exact rfl); (case kd | ku => first | ktr_room | ktr_units); (case h0 => exact (hand_ok (by assumption)).1); (case h5 => exact (hand_ok (by assumption)).2); (case hx => exact Nat.le_trans (out_len _ _ _) (by decide))); intro t9 h9 tk9 F9 N9; (try k_fold)))
local macro_rules | `(tactic| walk_at "call ref") => `(tactic| (k_here; (with_reducible show wpAny _ _ (call (Value.ref 49) _) _ _ _); k_dflt (refine' c_push (xs := []) ?kz ?kB ?kF ?kX ?kN ?kT ?kK ?kd ?ku ?kok ?kap ?_; (case kB | kF | kX => first | k_asm | exact rfl); (case kN => first | k_asm | exact lex_b1 (by k_asm) | exact lex_b2 (by k_asm) | exact lex_b3 (by k_asm) | exact lex_b4 (by k_asm)); (case kT | kK => first | k_asm | exact rfl); (case kd | ku => first | ktr_room | ktr_units); (case kz => exact Nat.le_of_ble_eq_true rfl); (case kok => assumption); (case kap => ((repeat' (first | exact apart_nil | refine apart_lo (by (dsimp only; omega)) ?_ | refine apart_hi (by (dsimp only; omega)) ?_))))); intro pn9 h9 tk9 F9 N9; (try k_fold)))
local macro_rules | `(tactic| walk_at "ElOk") => `(tactic| (first | exact ⟨_, _, rfl, rfl, by k_asm, by k_asm⟩ | exact ⟨_, _, ⟨_, rfl⟩, rfl, by k_asm, by k_asm⟩))
local macro_rules | `(tactic| walk_at "binaryOp Add ref ref") => `(tactic| (k_here; (with_reducible show wpAny _ _ (binaryOp _ (Value.ref _) (Value.ref _)) _ _ _); k_dflt (refine' add_strs ?F ?N ?a ?b ?Sa ?Sb ?z1 ?z2 ?_; (case F | N => k_asm); (case a | b => k_mem); (case Sa => assumption); (case Sb => exact .cons _ _ .nil); (case z1 => assumption); (case z2 => exact Nat.le_of_ble_eq_true rfl)); intro D9 us9 h9 hs9 F9 N9 l9; (try k_lt l9)))
local macro_rules | `(tactic| walk_at "eval ListComp") => `(tactic| (k_here; refine Stop.out ?_))
local macro_rules | `(tactic| walk_at "TeOk") => `(tactic| (refine ⟨_, _, rfl, by k_asm, by k_asm, ?_⟩; refine Stop.out ?_))
local macro_rules | `(tactic| walk_at "RgOk") => `(tactic| exact ⟨_, _, _, _, _, _, rfl, rfl, by assumption, by k_asm, by k_asm⟩)
local macro_rules | `(tactic| walk_at "call builtin:len") => `(tactic| (k_here; (with_reducible show wpAny _ _ (call (Value.builtin "len") [Value.ref _]) _ _ _); k_dflt (refine' lenRow ?N ?m ?y ?x ?_; (case N => k_asm); (case m => k_mem); (case y => assumption); (case x => exact layers_len _ _))))
local macro_rules | `(tactic| walk_at "compareOp Eq ref ref") => `(tactic| (k_here; (with_reducible show wpAny _ _ (compareOp _ (Value.ref _) (Value.ref _)) _ _ _); refine Stop.out ?_))
local macro_rules | `(tactic| walk_at "subscriptTail") => `(tactic| (k_here; (with_reducible show wpAny _ _ (subscriptTail _ _ (Value.ref _) (Value.int _ _)) _ _ _); k_dflt (refine' item_row2 ?N ?m ?y ?k3 ?k ?z ?_; (case N => k_asm); (case m => k_mem); (case y | k3 | k | z => assumption)); intro t9))
local macro_rules | `(tactic| walk_at "subscriptTail") => `(tactic| (k_here; (with_reducible show wpAny _ _ (subscriptTail _ _ (Value.ref _) (Value.int 0 _)) _ _ _); k_dflt (refine' item_head ?N ?m ?y ?z ?_; (case N => k_asm); (case m => k_mem); (case y => assumption); (case z => exact layers_pos _ _)); intro t9))
theorem endOf {c : ClaimW} {cl : Str → Option Addr} {mean : ExcName → Option Value} {args : List WData} {s₁ : Shared} {G : Result → Shared → Prop} (h : Same (GoodW c cl mean args s₁) G) (hn : ∀ cls, c.raises args cls = false) (hp : c.post args (.bool true) args = true) : ∀ (L : Addr) (m : Str → Option Value) (s' : Shared), Fr s₁.heap L s'.heap m → s'.gens = #[] → s'.os = s₁.os → G (.ok (.ret (.bool true))) s' := fun _ _ _ F hg hos => by
  rw [← h.out]; exact goodW_bool F hg hn hp hos
theorem law.tw2759683279807804344 : True := trivial
theorem law.tw10739836229700673485 : True := trivial
theorem law.tw7238077460143993408 : True := trivial
theorem law.tw16884566110622355778 : True := trivial
theorem law.tw17084091479934422900 : True := trivial
theorem law.tw1282642255254741292 : True := trivial
theorem law.tw15190560575060366405 : True := trivial
theorem law.tw4676788777328934994 : True := trivial
theorem law.tw10682346804044242067 : True := trivial
theorem law.tw17880333376003554739 : True := trivial
theorem law.tw2901162926802514841 : True := trivial
theorem law.tw14599413283764096708 : True := trivial
theorem law.tw12674282577319284049 : True := trivial
theorem law.tw15473402846913379219 : True := trivial
theorem law.tw15716018542321952146 : True := trivial
theorem law.tw8549964072919090490 : True := trivial
theorem law.tw13759417580001532375 : True := trivial
theorem law.tw3602087526383413984 : True := trivial
theorem law.tw17368332058136884352 : True := trivial
theorem law.tw12863743462289780895 : True := trivial
theorem law.tw11444997793602299991 : True := trivial
theorem law.tw5995636244603389501 : True := trivial
theorem law.tw6944951937206755967 : True := trivial
theorem law.tw6424448315993446631 : True := trivial
theorem law.tw12013849283962830758 : True := trivial
theorem law.tw16756087238492270046 : True := trivial
theorem law.tw1710791838299486756 : True := trivial
theorem law.tw1060527474883285679 : True := trivial
theorem law.tw691842779745001572 : True := trivial
theorem law.tw17794265857875359651 : True := trivial
theorem law.tw9084386154913301970 : True := trivial
theorem law.tw9035912170408793244 : True := trivial
theorem law.tw9509988469621980896 : True := trivial
theorem law.tw13015613923333616007 : True := trivial
theorem law.tw445187652221266311 : True := trivial
theorem law.tw2867984728959990353 : True := trivial
theorem law.tw9641771715135223730 : True := trivial
theorem law.tw8476946520831507393 : True := trivial
theorem law.tw8096505338646543528 : True := trivial
theorem law.tw4622507943286758663 : True := trivial
theorem law.tw5220970943305120558 : True := trivial
theorem law.tw14325307061458958174 : True := trivial
theorem law.tw6320052863035037261 : True := trivial
theorem law.tw3272815010394513277 : True := trivial
theorem law.tw10036594631794845626 : True := trivial
theorem law.tw11585939484337836193 : True := trivial
theorem law.tw15842686482387449074 : True := trivial
theorem law.tw8319792697340206452 : True := trivial
theorem law.tw9705406087231273881 : True := trivial
theorem law.tw7990135326770990556 : True := trivial
theorem law.tw7472392605112009958 : True := trivial
theorem law.tw10017303938028548802 : True := trivial
theorem law.tw3886675843612926803 : True := trivial
theorem law.tw6901615715716342155 : True := trivial
theorem law.tw17383301986935559125 : True := trivial
theorem law.tw5926448791855114412 : True := trivial
theorem law.tw3875074332801123443 : True := trivial
theorem law.tw11013384265288417636 : True := trivial
theorem law.tw6981911342545965932 : True := trivial
theorem law.tw11677494256100043861 : True := trivial
theorem law.tw11828176328403043835 : True := trivial
theorem law.tw3540389220791546976 : True := trivial
theorem law.tw11935970676940699786 : True := trivial
theorem law.tw9557124704186283899 : True := trivial
theorem law.tw10514562384108138522 : True := trivial
theorem law.tw102369953223478417 : True := trivial
theorem law.tw7873568984172552413 : True := trivial
theorem law.tw14831383725187164143 : True := trivial
theorem law.tw15700806725817004867 : True := trivial
theorem law.tw10426067975794604667 : True := trivial
theorem law.tw17985451953469339569 : True := trivial
theorem law.tw9710088225557845874 : True := trivial
theorem law.tw12287136234533164809 : True := trivial
theorem law.tw16143402536387952546 : True := trivial
theorem law.tw163467674121137261 : True := trivial
theorem law.tw17617285060259143518 : True := trivial
theorem law.tw10621653777096046941 : True := trivial
theorem law.tw8379801371077579658 : True := trivial
theorem law.tw811658124584790753 : True := trivial
theorem law.tw16127396978525395202 : True := trivial
theorem law.tw7974842139376466880 : True := trivial
theorem law.tw4996075523409900784 : True := trivial
theorem law.tw16585132557245215809 : True := trivial
theorem law.tw4811541298574165355 : True := trivial
theorem law.tw13047991302672676317 : True := trivial
theorem law.tw4374311865265045770 : True := trivial
theorem law.tw6003215673028684012 : True := trivial
theorem law.tw407461395843676723 : True := trivial
theorem law.tw16234711888074852603 : True := trivial
theorem law.tw13542253949724653569 : True := trivial
theorem law.tw17351294838357633443 : True := trivial
theorem law.tw11740940271191787082 : True := trivial
theorem law.tw16508637522281333976 : True := trivial
theorem law.tw3546409519315090473 : True := trivial
theorem law.tw4567791690157840171 : True := trivial
theorem law.tw3634103573656307507 : True := trivial
theorem law.tw2688440419461138214 : True := trivial
theorem law.tw13961721518649118276 : True := trivial
theorem law.tw14152130928434042037 : True := trivial
theorem law.tw5225318231275157303 : True := trivial
theorem law.tw17865747701858748339 : True := trivial
theorem law.tw16531888908054038061 : True := trivial
theorem law.tw9926356499664884447 : True := trivial
theorem law.tw1823688381079382038 : True := trivial
theorem law.tw14805874555140095111 : True := trivial
theorem law.tw4089622393701157624 : True := trivial
theorem law.tw3022312534896902172 : True := trivial
theorem law.tw10243927037389961114 : True := trivial
theorem law.tw10047779025188342691 : True := trivial
theorem law.tw5112332982280096225 : True := trivial
theorem law.tw7637284107889890762 : True := trivial
theorem law.tw1686647556559472485 : True := trivial
theorem law.tw15965980055267658272 : True := trivial
theorem law.tw3354418783263562886 : True := trivial
theorem law.tw2534802532812314358 : True := trivial
theorem law.tw14000446723430198427 : True := trivial
theorem law.tw3054335285294786930 : True := trivial
theorem law.tw2190958759868804901 : True := trivial
theorem law.tw14499171404124301396 : True := trivial
theorem law.tw17022016316827628603 : True := trivial
theorem law.tw6519122298890219348 : True := trivial
theorem law.tw11522750334253289022 : True := trivial
theorem law.tw11638641577016448809 : True := trivial
theorem law.tw6076884539436227855 : True := trivial
theorem law.tw3635574925395915108 : True := trivial
theorem law.tw2360388144880082473 : True := trivial
theorem law.tw256976601096795226 : True := trivial
theorem law.tw17585447988674925725 : True := trivial
theorem law.tw2030965984702790068 : True := trivial
theorem law.tw759412082559616514 : True := trivial
theorem law.tw9774928459537144336 : True := trivial
theorem law.tw2822896549057869306 : True := trivial
theorem law.tw9148902814395704832 : True := trivial
theorem law.tw14863036695008648806 : True := trivial
theorem law.tw12972701630936368464 : True := trivial
theorem law.tw8481551819484204512 : True := trivial
theorem law.tw16686367200484181685 : True := trivial
theorem law.tw5778479216837208672 : True := trivial
theorem law.tw7874035108860355382 : True := trivial
theorem law.tw8862305216795178012 : True := trivial
theorem law.tw17289018086036417837 : True := trivial
theorem law.tw8687011527553048698 : True := trivial
theorem law.tw4846713546244368349 : True := trivial
theorem law.tw4789647429693112344 : True := trivial
theorem law.tw17357379494525512551 : True := trivial
theorem law.tw14454013014457997316 : True := trivial
theorem law.tw16251456166430716674 : True := trivial
theorem law.tw5239456213321263912 : True := trivial
theorem law.tw16176092079185841447 : True := trivial
theorem law.tw10688277823682773845 : True := trivial
theorem law.tw6152378112859876241 : True := trivial
theorem law.tw16762458994305022840 : True := trivial
theorem law.tw8695362306470200571 : True := trivial
theorem law.tw11218094928909113304 : True := trivial
theorem law.tw2205698974497283170 : True := trivial
theorem law.tw11432095895762842861 : True := trivial
theorem law.tw8393808627357018136 : True := trivial
theorem law.tw9549881006879880859 : True := trivial
theorem law.tw1894415437690322856 : True := trivial
theorem law.tw10365027968710667838 : True := trivial
theorem law.tw12460558941114831546 : True := trivial
theorem law.tw16617871175012263787 : True := trivial
theorem law.tw15712179433548234360 : True := trivial
theorem law.tw1938744211872416739 : True := trivial
theorem law.tw7712447660842303439 : True := trivial
theorem law.tw16121300976676042060 : True := trivial
set_option Elab.async true in
theorem law : PySem.Challenge.rw_st0027_01.Holds := by
    w_on
    o_law
    k_head
    (case hw => w_witness2)
    k_go0
    have e9 : @pre.heap_1_39 = @_root_.Mine.law.heap_1_39 := rfl
    rename Frag.In _ _ => X9
    rw [← e9] at X9
    clear e9
    generalize hG : GoodW _ _ _ _ _ = G
    revert G
    refine genEq ?_
    intro G hG
    have hEnd := endOf hG (raisesW_false (by wrow_none_raised)) (by wrow_post)
    k_steps
    rename EnSt _ _ _ _ _ _ => st0
    refine enum_iter st0 ?_
    (show codeAny _ _ _ _ _)
    rename Fr _ _ _ _ => fF
    rename News _ _ _ _ => fN
    rename IntsAre _ (List.take 63 _) => hI
    rename (∀ (p : Addr × Obj), p ∈ _ → p.1 < _) => o8
    rename Heap.IsList _ _ _ => hS
    refine codeAny_forLoop_any (EInv fF fN st0 hS) ?_ (szOf st0) ?_
    · rintro n s ⟨oe, oi, i, cs, vs, nl, kv, xv, h', tk', rfl, hi, rfl, h6, hcs, eo, io, gF, gN⟩
      have st := ensT gN eo io (.head _)
      have gM := fun p hp => gN p (.tail _ (.tail _ hp))
      obtain hi9 | hi9 := Nat.lt_or_ge i (Array.size _)
      · obtain ⟨z, tz, hz⟩ := ints_get hI hi9
        refine enum_next rfl gF gM st ?_ ?_ ?_ ?_ ?_ hz (fun T t h1 tk1 go => ?_)
        · assumption
        · assumption
        · omega
        · exact all_lt (by rfl) o8
        · exact Nat.le_of_lt (Nat.lt_of_le_of_lt fF.above (by assumption))
        · refine go _ _ _ _ _ (fun h2 st2 tup F2 N2 => ?_)
          obtain ⟨oe2, oi2, eo2, io2, N3⟩ := ensN gN st2 N2
          clear gF gN gM N2 st st2 go eo io
          dsimp only
          k_steps
          rename Fr _ _ _ _ => zF
          rename News _ _ _ _ => zN
          rename IntsAre (List.set _ _ _) _ => zI
          rename (List.set _ _ _).length = _ => zl
          exact ⟨Array.size _ - (i + 1), by omega, oe2, oi2, i + 1, _, _, _, _, _, _, _, rfl, by omega, rfl, zl.trans h6, zI, eo2, io2, laL_fr zF rfl rfl rfl rfl (by intro y a b c d; simp only [laL, if_neg a, if_neg b, if_neg c, if_neg d]), zN⟩
      · obtain rfl : i = Array.size _ := Nat.le_antisymm hi hi9
        refine enum_end rfl gF gM st ?_ ?_ ?_ ?_ ?_ (fun h2 tk2 F2 N2 => ?_)
        · assumption
        · assumption
        · omega
        · exact all_lt (by rfl) o8
        · exact Nat.le_of_lt (Nat.lt_of_le_of_lt fF.above (by assumption))
        · clear gF gN gM st
          dsimp only
          k_steps
          rename IsRange _ _ _ _ _ _ _ _ => hR
          rename Fr _ _ _ _ => fF0
          rename News _ _ _ _ => fN0
          refine iterS hR fF0 fN0 (fun I h1 F1 N1 hI1 => ?_)
          (show codeAny _ _ _ _ _)
          refine sameR hS F1 N1 hcs (fun V hV => ?_)
          refine codeAny_forLoop V ?_ 3 ?_
          rotate_left
          · have hw := news_sub (want := [(I, itS 0 3), _, _, _, _, _]) N1 ⟨.head _, .tail _ (.head _), .tail _ (.tail _ (.head _)), .tail _ (.tail _ (.tail _ (.tail _ (.head _)))), .tail _ (.tail _ (.tail _ (.tail _ (.tail _ (.head _))))), .tail _ (.tail _ (.tail _ (.tail _ (.tail _ (.tail _ (.head _)))))), trivial⟩
            have hr := rL_fr (hand := none) (text := none) (hands := none) F1 rfl rfl rfl rfl rfl rfl rfl rfl rfl (by
              intro y a b c d e f g h i9
              rw [if_neg f, if_neg e]
              (show (if y = Str.ofString "x" then _ else if y = Str.ofString "k" then _ else if y = Str.ofString "cells" then _ else if y = Str.ofString "script" then _ else none) = none)
              rw [if_neg g, if_neg d, if_neg h, if_neg i9])
            exact hV.of2 ⟨0, [], [], _, _, _, none, none, none, 0, 0, _, _, rfl, Nat.zero_le _, rfl, rows_nil, .nil, (fun _ h => nomatch h), hr, hw⟩
          intro n s hz8
          obtain ⟨i, R, os, tp, xv, kv, tv, hv, dv, lv, ov, h', tk', rfl, hi3, rfl, hRow, hOs, hIR, gF, gN⟩ := hV.to2 hz8
          clear hz8
          k_lt hI1
          have hoI := off5 gN (by dsimp only; omega) (by dsimp only; omega) (by dsimp only; omega) (by dsimp only; omega) (by dsimp only; omega) hIR
          obtain hi9 | hi9 := Nat.lt_or_ge i 3
          · refine nextS rfl gF gN hoI hi9 (fun t2 h2 tk2 F2 N2 => ?_)
            clear gF gN hoI
            walk_at "hide"
            k_steps
            rename Fr _ _ _ _ => fF1
            rename News _ _ _ _ => fN1
            rename IntsAre _ (handsOf _) => hI9
            rename StrsAre _ (layersS _ _) => hY9
            refine iterL fF1 fN1 (by k_mem) (fun J oJ hh hJt G M hltJ => ?_)
            (show codeAny _ _ _ _ _)
            refine sameH hS G (fun p hp => M p (.tail _ hp)) hI9 hY9 hJt J (fun V2 hV2 => ?_)
            refine codeAny_forLoop V2 ?_ (hszOf hI9) ?_
            rotate_left
            · exact hV2.of2 ⟨0, oJ, _, _, _, _, rfl, Nat.zero_le _, rfl, hJt, txL_fr G rfl rfl (by intro y a b; rfl), M⟩
            intro n s hz9
            obtain ⟨j, oJ1, tt, dv1, h', tk', rfl, hj, rfl, hJ, gF, gN⟩ := hV2.to2 hz9
            clear hz9
            have hoff := fun p hp => Nat.ne_of_lt (hltJ p hp)
            k_lt hltJ
            obtain hj9 | hj9 := Nat.lt_or_ge j (Array.size _)
            · obtain ⟨tz, hz, hzl⟩ := ints_get2 hI9 hj9
              refine nextL gF gN hoff hJ (by k_mem) hz (fun h2 oI2 hI2 F2 N2 => ?_)
              clear gF gN hoff
              dsimp only
              k_steps
              rename Fr _ _ _ _ => zF
              rename News _ _ _ _ => zN
              rw [out_snoc hzl] at zF
              exact ⟨Array.size _ - (j + 1), by omega, hV2.of2 ⟨j + 1, oI2, _, _, _, _, rfl, hj9, rfl, hI2, txL_fr zF rfl rfl (by intro y a b; simp only [txL, if_neg a, if_neg b]), zN⟩⟩
            obtain rfl : j = Array.size _ := Nat.le_antisymm hj hj9
            refine endL gF gN hoff hJ (by k_mem) (Array.getElem?_eq_none (Nat.le_refl _)) rfl (fun h2 F2 N2 => ?_)
            rw [ints_size hI9, List.take_length] at F2
            clear gF gN hoff hJ hj hj9
            have hP := pg_len3 cs hi9
            dsimp only
            k_steps
            rename Fr _ _ _ _ => zF
            rename News _ _ _ _ => zN
            have hr := rL_fr zF rfl rfl rfl rfl rfl rfl rfl rfl rfl (by
              intro y a b c d e f g h i9
              simp only [txL, rL, if_neg a, if_neg b, if_neg c, if_neg d, if_neg e, if_neg f, if_neg g, if_neg h, if_neg i9])
            obtain ⟨hrow, ht, hn⟩ := turn_all zN hRow hY9 hIR (by assumption) (by assumption) (by assumption)
            exact ⟨3 - (i + 1), by omega, hV.of2 ⟨i + 1, R ++ [(_, _, _)], os ++ [_], _, _, _, _, _, _, _, _, _, _, rfl, hi9, rfl, hrow, outs_snoc hOs, ht, hr, hn⟩⟩
          obtain rfl : i = 3 := Nat.le_antisymm hi3 hi9
          refine endS rfl gF gN hoI (fun h2 tk2 F2 N2 => ?_)
          clear gF gN hoI
          obtain ⟨c0, d0, c1, d1, c2, d2, r0, y0, n0, r1, y1, n1, r2, y2, n2, t0, t1, t3, rfl, rfl, hpg, hY1, hY2, hY3, hr01, hr12⟩ := all_three hRow hOs
          rw [hpg] at F2
          have hr0 := hIR _ (.head _)
          dsimp only [List.map, rowO] at N2 hr0
          clear hIR hRow hOs hpg
          replace N2 := prune8 N2
          dsimp only
          k_steps
          refine Stop.intro ?_
          rename News _ _ _ _ => nR
          k_dflt (refine' c_lexer ?kB_2 ?kF_2 ?kX_2 nR ?kT_2 ?kK_2 ?kd_2 ?ku_2 _ _ ?hx_2 ?off_2 ?C_2 ?_; (case kB_2 => k_asm); (case kF_2 => k_asm); (case kX_2 => k_asm); (case kT_2 => k_asm); (case kK_2 => first | exact rfl | assumption); (case kd_2 => ktr_room); (case ku_2 => ktr_units))
          case C_2 => assumption
          case hx_2 => exact page_len3 _ _ _ _ _ _
          case off_2 =>
            repeat' (first | exact Off.nil | refine Off.mk ?_ ?_)
            all_goals (dsimp only; omega)
          intro P lt1 pn1 sgs1 sn1 ps1 h1 tk1 ok hy F1 N1 q0 q1
          clear nR
          have o1 := ok.o1; have o2 := ok.o2; have o3 := ok.o3; have o4 := ok.o4; have o5 := ok.o5; have o6 := ok.o6; have o7 := ok.o7; have o8 := ok.o8
          k_lt q0
          k_steps
          refine Stop.intro ?_
          rename News _ _ _ _ => nS
          k_dflt (refine' c_turns (pb := []) (pbs := []) ?kB_2 ?kF_2 ?kX_2 nS ?kT_2 ?kK_2 ?kd_2 ?ku_2 ok ?ap_2 hy (page_len _ _ _ _ _ _) (page_lt _ _ _ _ _ _) .nil (by decide) (fun _ h => nomatch h) (by decide) ?_; (case kB_2 => k_asm); (case kF_2 => k_asm); (case kX_2 => k_asm); (case kT_2 => k_asm); (case kK_2 => first | exact rfl | assumption); (case kd_2 => ktr_room); (case ku_2 => ktr_units))
          case ap_2 =>
            repeat' (first | exact apart_nil | refine apart_lo ?_ ?_)
            all_goals (dsimp only; omega)
          rw [page_turns]
          intro lF vF nF ln2 lt2 pbs2 pn2 sgs2 sn2 h2 tk2 eL hv hp2 hy2 F2 N2 q2 q3
          cases hp2
          cases hy2
          clear nS
          dsimp only
          k_lt q2
          have o9 : @LT.lt Nat _ P.pb lF := q3
          k_steps
          refine Stop.intro ?_
          rename News _ _ _ _ => nS
          k_dflt (refine' c_turns (sgs := []) (xs := []) ?kB_3 ?kF_3 ?kX_3 nS ?kT_3 ?kK_3 ?kd_3 ?ku_3 (by assumption) ?ap_3 .nil (by decide) (fun _ h => nomatch h) three_strs (Nat.le_of_ble_eq_true rfl) (three_len _ _ _ _ _ _) (Nat.le_of_ble_eq_true rfl) ?_; (case kB_3 => k_asm); (case kF_3 => k_asm); (case kX_3 => k_asm); (case kT_3 => k_asm); (case kK_3 => first | exact rfl | assumption); (case kd_3 => ktr_room); (case ku_3 => ktr_units))
          case ap_3 =>
            repeat' (first | exact apart_nil | refine apart_lo (by (dsimp only; omega)) ?_ | refine apart_hi (by (dsimp only; omega)) ?_)
          rw [rounds_turns]
          intro lG vG nG ln3 lt3 pbs3 pn3 sgs3 sn3 h3 tk3 eM hv3 hp3 hy3 F3 N3 q4 q5
          cases hp3
          cases hy3
          clear nS
          dsimp only
          k_lt q4
          have oA : @LT.lt Nat _ _ lG := q5
          k_steps
          refine Stop.intro ?_
          rename News _ _ _ _ => nS
          k_dflt (refine' c_gtA (sgs := []) (xs := []) (pb := [[], _]) ?kB_4 ?kF_4 ?kX_4 nS ?kT_4 ?kK_4 ?kd_4 ?ku_4 (by assumption) ?ap_4 .nil (by decide) (fun _ h => nomatch h) two_strs (Nat.le_of_ble_eq_true rfl) ?_; (case kB_4 => k_asm); (case kF_4 => k_asm); (case kX_4 => k_asm); (case kT_4 => k_asm); (case kK_4 => first | exact rfl | assumption); (case kd_4 => ktr_room); (case ku_4 => ktr_units))
          case ap_4 =>
            repeat' (first | exact apart_nil | refine apart_lo (by (dsimp only; omega)) ?_ | refine apart_hi (by (dsimp only; omega)) ?_)
          dsimp only [nextW]
          intro tA lnA ltA pbsA pnA sgsA snA hA tkA eA pA yA FA NA
          cases yA
          clear nS
          k_steps
          refine Stop.intro ?_
          rename News _ _ _ _ => nS
          k_dflt (refine' c_gtA (sgs := []) (xs := []) ?kB_4 ?kF_4 ?kX_4 nS ?kT_4 ?kK_4 ?kd_4 ?ku_4 (by assumption) ?ap_4 .nil (by decide) (fun _ h => nomatch h) pA (Nat.le_of_ble_eq_true rfl) ?_; (case kB_4 => k_asm); (case kF_4 => k_asm); (case kX_4 => k_asm); (case kT_4 => k_asm); (case kK_4 => first | exact rfl | assumption); (case kd_4 => ktr_room); (case ku_4 => ktr_units))
          case ap_4 =>
            repeat' (first | exact apart_nil | refine apart_lo (by (dsimp only; omega)) ?_ | refine apart_hi (by (dsimp only; omega)) ?_)
          dsimp only [nextW]
          intro tB lnB ltB pbsB pnB sgsB snB hB tkB eB pB yB FB NB
          cases yB
          cases pB
          clear nS pA
          have NP := pruneLex NB
          clear NB
          k_steps
          refine Stop.intro ?_
          rename News _ _ _ _ => nW
          rename Fr _ _ _ _ => fW
          k_dflt (refine' comp_whole fW nW ?Y1_5 ?Y2_5 ?Y3_5 ?l1_5 ?l2_5 ?l3_5 ?hl_5 ?h1_5 ?h2_5 ?h3_5 ?hclos_5 ?hcell_5 ?hkind_5 ?hnames_5 ?hx_5 ?hy_5 ?hxy_5 ?hh_5 ?hdx_5 ?hdy_5 ?h_5 ?fin_5)
          case hl_5 => k_mem
          case h1_5 => k_mem
          case h2_5 => k_mem
          case h3_5 => k_mem
          case Y1_5 => assumption
          case Y2_5 => assumption
          case Y3_5 => assumption
          case l1_5 => exact layers_len _ _
          case l2_5 => exact layers_len _ _
          case l3_5 => exact layers_len _ _
          case hclos_5 => with_unfolding_all rfl
          case hcell_5 => decide
          case hkind_5 => rfl
          case hnames_5 => decide
          case hx_5 => rfl
          case hy_5 => rfl
          case hxy_5 => decide
          case hh_5 => exact rfl
          case hdx_5 => decide
          case hdy_5 => decide
          case h_5 => k_steps
          intro D1 w1 c1 hW tkW hw1 lw1 FW NW ltW
          clear fW nW
          k_lt ltW
          k_steps
          refine Stop.intro ?_
          rename News _ _ _ _ => nW
          rename Fr _ _ _ _ => fW
          k_dflt (refine' comp_rounds fW nW ?Y1q ?Y2q ?Y3q ?m1q ?m2q ?m3q ?hlq ?hclosq ?hcellq ?hkindq ?hnamesq ?hxq ?hyq ?hxyq ?hhq ?h0q ?h1q ?h2q ?finq)
          case hlq => k_mem
          case m1q => k_mem
          case m2q => k_mem
          case m3q => k_mem
          case Y1q => assumption
          case Y2q => assumption
          case Y3q => assumption
          case hclosq => with_unfolding_all rfl
          case hcellq => decide
          case hkindq => rfl
          case hnamesq => decide
          case hxq => rfl
          case hyq => rfl
          case hxyq => decide
          case hhq => exact rfl
          case h0q => k_steps
          case h1q =>
            intro I oI C oC m2 D oD k t h tk E' hC hx F N off
            clear fW nW
            k_steps
          case h2q =>
            intro j J oJ I oI C oC m2 D oD k t h tk E' hj hk hC hx hy F N off
            clear fW nW
            obtain rfl | rfl | rfl : j = 0 ∨ j = 1 ∨ j = 2 := by omega
            · rw [pick3_0] at hy ⊢
              refine wpAny_tests_one ?_
              k_steps
              refine Stop.intro ?_
              with_reducible refine te_if (by assumption) (fun z hq hz => ?_)
              dsimp only
              k_steps
            · rw [pick3_1] at hy ⊢
              refine wpAny_tests_one ?_
              k_steps
              refine Stop.intro ?_
              with_reducible refine te_if (by assumption) (fun z hq hz => ?_)
              dsimp only
              k_steps
            · rw [pick3_2] at hy ⊢
              refine wpAny_tests_one ?_
              k_steps
              refine Stop.intro ?_
              with_reducible refine te_if (by assumption) (fun z hq hz => ?_)
              dsimp only
              k_steps
          intro D2 w2 c2 hW tkW hw2 lw2 FW NW ltW
          clear fW nW
          k_lt ltW
          k_steps
          refine Stop.intro ?_
          rename News _ _ _ _ => nW
          k_dflt (refine' eq_true nW ?ha_7 ?hb_7 ?hi_7 ?hj_7 (whole_eq _ _ _ _ _ _) (whole_ok _ _ _ _ _ _) ?hu_7 ?_)
          case ha_7 => k_mem
          case hb_7 => k_mem
          case hi_7 => assumption
          case hj_7 => assumption
          case hu_7 => k_units
          k_steps
          refine Stop.intro ?_
          k_dflt (refine' eq_true nW ?ha_7 ?hb_7 ?hi_7 ?hj_7 (rounds_eq _ _ _ _ _ _) (rounds_ok _ _ _ _ _ _) ?hu_7 ?_)
          case ha_7 => k_mem
          case hb_7 => k_mem
          case hi_7 => assumption
          case hj_7 => assumption
          case hu_7 => k_units
          k_steps
          refine Stop.intro ?_
          rename News _ _ _ _ => nW
          k_dflt (refine' eq_true nW ?ha_8 ?hb_8 (.cons _ _ (.cons _ _ .nil)) (.cons _ _ (.cons _ _ .nil)) (last_eq _ _) (last_ok _ _) ?hu_8 ?_)
          case ha_8 => k_mem
          case hb_8 => k_mem
          case hu_8 => k_units
          k_steps
          refine Stop.intro ?_
          rename News _ _ _ _ => nW
          k_dflt (refine' ints_true nW ?ha_9 ?hb_9 ?hi_9 ?hu_9 ?he_9 ?_)
          case ha_9 => k_mem
          case hb_9 => k_mem
          case hi_9 => assumption
          case hu_9 => k_units
          case he_9 =>
            refine lines_eq ?_ ?_
            · rw [count_nl]
              refine lin1 ?_
              assumption
            · rw [count_nl]
              refine' lin2 ?a_9 ?b_9 ?c_9 ?d_9
              case d_9 => assumption
              case c_9 => assumption
              case b_9 => assumption
              case a_9 => assumption
          repeat' (first | (with_reducible refine unh (by assumption) ?_; try dsimp only) | (k_unfold; (try dsimp only)) | walk1 | (dsimp only; walk1))
          dsimp only
          rename Fr _ _ _ _ => fZ
          rename Shared.gens _ = #[] => gZ
          exact hEnd _ _ _ fZ gZ rfl
    · have st1 := st0
      obtain ⟨⟨old, hE⟩, ⟨oi, hoi, hic, hid⟩, hL⟩ := st1
      obtain ⟨oe, hoe, hob⟩ := enob_of hE
      exact ⟨oe, oi, 0, [73, 194, 79, 0, 33, 539], _, _, _, _, _, _, rfl, Nat.zero_le _, rfl, rfl, .cons _ _ (.cons _ _ (.cons _ _ (.cons _ _ (.cons _ _ (.cons _ _ .nil))))), hob, ⟨hic, hid⟩, laL_fr fF rfl rfl rfl rfl (by intro y a b c d; rw [if_neg c]; with_unfolding_all (show (if y = Str.ofString "script" then some _ else none) = none); rw [if_neg d]), newsE fF fN (by assumption) (by assumption) hoe hoi⟩
end Mine
end
theorem PySem.Challenge.cw_st0027_01_holds : PySem.Challenge.rw_st0027_01.Holds := by
  exact Mine.law
